import JvmDerived
import JvmDerived.Pilot.@@N@@Statement
import JvmDerived.Pilot.@@N@@Code
set_option linter.unusedVariables false
set_option linter.unusedSimpArgs false
namespace Jvm.Own
open Jvm Jvm.ClassFile Sem Op Lib Jvm.Free Jvm.Stand Jvm.LawKit Jvm.RoadKit Bundle
/-- from this point the run comes to its end, and there En holds -/
def Go (p : Program) (l : Launch) (e : Env) (R : Room) (s : State) (m : MethodId) (args : Array Value) (below : List Frame) (meth : Method) (c : Code) (Z : State) (own : String) (n0 : Nat) (Bs : Vm → Heap → Prop) (En : Outcome → State → List Loc → Prop) (h : Heap) (cells slots pc : Nat) (Ls : Array Slot) (S : List Value) : Prop :=
  ∀ (vm0 : Vm) (T : State) (locs : List Loc), Z.Warmed39 vm0 → vm0.findClass own = some m.cls → Bs vm0 h → Stand p l e R (s.setVm vm0) m args below meth c T locs cells slots → Fr n0 locs → T.heap = h →
    ∃ (s₂ : State) (o : Outcome) (L : List Loc), Steps p.tables e below (T.setTop (mkF m pc Ls S)) s₂ ∧ s₂.status = .running ∧ Ended s₂ below o ∧ En o s₂ L
/-- what a walk knows of its method -/
def Cx (p : Program) (meth : Method) (c : Code) (bytes : ByteArray) (ml : Nat) (ret : Option FieldType) : Prop := p.tables.exec = Jvm.exec ∧ c.code = bytes ∧ c.maxLocals = ml ∧ meth.sig.returnType = ret ∧ meth.locks = false
section Rules
variable {p : Program} {l : Launch} {e : Env} {R : Room} {s : State} {m : MethodId} {args : Array Value} {below : List Frame} {meth : Method} {c : Code} {Z : State} {own : String} {n0 : Nat} {Bs : Vm → Heap → Prop} {En : Outcome → State → List Loc → Prop} {h : Heap} {cells slots pc pc' : Nat} {Ls : Array Slot} {S : List Value} {bytes : ByteArray} {ml : Nat} {ret : Option FieldType} {a0 : Array Value}
theorem Go.st {Ls' : Array Slot} {S' : List Value} (f : ∀ T : State, At T m c below → ∀ target, Steps p.tables e below (T.setTop (mkF m pc' Ls' S')) target → Steps p.tables e below (T.setTop (mkF m pc Ls S)) target) (K : Go p l e R s m args below meth c Z own n0 Bs En h cells slots pc' Ls' S') : Go p l e R s m args below meth c Z own n0 Bs En h cells slots pc Ls S := fun vm0 T locs q1 q2 q3 X q4 q5 => by
  obtain ⟨s₂, o, L, h1, h2⟩ := K vm0 T locs q1 q2 q3 X q4 q5
  exact ⟨s₂, o, L, f T X.here _ h1, h2⟩
theorem Go.bs {Bs' : Vm → Heap → Prop} (q : ∀ vm, Bs vm h → Bs' vm h) (K : Go p l e R s m args below meth c Z own n0 Bs' En h cells slots pc Ls S) : Go p l e R s m args below meth c Z own n0 Bs En h cells slots pc Ls S := fun vm0 T locs q1 q2 q3 X q4 q5 => K vm0 T locs q1 q2 (q vm0 q3) X q4 q5
theorem Go.iload (C : Cx p meth c bytes ml ret) {k : Nat} {v : Int32} (hd : decode bytes pc = .ok (.iload k, 2)) (hl : Ls[k]? = some (.val (.int v))) (hp : pc + 2 = pc') (K : Go p l e R s m args below meth c Z own n0 Bs En h cells slots pc' Ls (.int v :: S)) : Go p l e R s m args below meth c Z own n0 Bs En h cells slots pc Ls (S) := by
  subst hp; exact Go.st (fun T X t q => XS.iload X C.1 rfl (hb C.2.1 hd) hl q) K
theorem Go.iloadN (C : Cx p meth c bytes ml ret) {k : Fin 4} {v : Int32} (hd : decode bytes pc = .ok (.iload_n k, 1)) (hl : Ls[k.val]? = some (.val (.int v))) (hp : pc + 1 = pc') (K : Go p l e R s m args below meth c Z own n0 Bs En h cells slots pc' Ls (.int v :: S)) : Go p l e R s m args below meth c Z own n0 Bs En h cells slots pc Ls (S) := by
  subst hp; exact Go.st (fun T X t q => XS.iloadN X C.1 rfl (hb C.2.1 hd) hl q) K
theorem Go.istore (C : Cx p meth c bytes ml ret) {k : Nat} {x : Int32} {L' : Array Slot} (hd : decode bytes pc = .ok (.istore k, 2)) (hl : storeLocals Ls k (.int x) = some L') (hp : pc + 2 = pc') (K : Go p l e R s m args below meth c Z own n0 Bs En h cells slots pc' L' (S)) : Go p l e R s m args below meth c Z own n0 Bs En h cells slots pc Ls (.int x :: S) := by
  subst hp; exact Go.st (fun T X t q => XS.istore X C.1 rfl (hb C.2.1 hd) rfl hl q) K
theorem Go.istoreN (C : Cx p meth c bytes ml ret) {k : Fin 4} {x : Int32} {L' : Array Slot} (hd : decode bytes pc = .ok (.istore_n k, 1)) (hl : storeLocals Ls k.val (.int x) = some L') (hp : pc + 1 = pc') (K : Go p l e R s m args below meth c Z own n0 Bs En h cells slots pc' L' (S)) : Go p l e R s m args below meth c Z own n0 Bs En h cells slots pc Ls (.int x :: S) := by
  subst hp; exact Go.st (fun T X t q => XS.istoreN X C.1 rfl (hb C.2.1 hd) rfl hl q) K
theorem Go.lload (C : Cx p meth c bytes ml ret) {k : Nat} {v : Int64} (hd : decode bytes pc = .ok (.lload k, 2)) (hl : Ls[k]? = some (.val (.long v))) (hp : pc + 2 = pc') (K : Go p l e R s m args below meth c Z own n0 Bs En h cells slots pc' Ls (.long v :: S)) : Go p l e R s m args below meth c Z own n0 Bs En h cells slots pc Ls (S) := by
  subst hp; exact Go.st (fun T X t q => XS.lload X C.1 rfl (hb C.2.1 hd) hl q) K
theorem Go.lloadN (C : Cx p meth c bytes ml ret) {k : Fin 4} {v : Int64} (hd : decode bytes pc = .ok (.lload_n k, 1)) (hl : Ls[k.val]? = some (.val (.long v))) (hp : pc + 1 = pc') (K : Go p l e R s m args below meth c Z own n0 Bs En h cells slots pc' Ls (.long v :: S)) : Go p l e R s m args below meth c Z own n0 Bs En h cells slots pc Ls (S) := by
  subst hp; exact Go.st (fun T X t q => XS.lloadN X C.1 rfl (hb C.2.1 hd) hl q) K
theorem Go.lstore (C : Cx p meth c bytes ml ret) {k : Nat} {x : Int64} {L' : Array Slot} (hd : decode bytes pc = .ok (.lstore k, 2)) (hl : storeLocals Ls k (.long x) = some L') (hp : pc + 2 = pc') (K : Go p l e R s m args below meth c Z own n0 Bs En h cells slots pc' L' (S)) : Go p l e R s m args below meth c Z own n0 Bs En h cells slots pc Ls (.long x :: S) := by
  subst hp; exact Go.st (fun T X t q => XS.lstore X C.1 rfl (hb C.2.1 hd) rfl hl q) K
theorem Go.lstoreN (C : Cx p meth c bytes ml ret) {k : Fin 4} {x : Int64} {L' : Array Slot} (hd : decode bytes pc = .ok (.lstore_n k, 1)) (hl : storeLocals Ls k.val (.long x) = some L') (hp : pc + 1 = pc') (K : Go p l e R s m args below meth c Z own n0 Bs En h cells slots pc' L' (S)) : Go p l e R s m args below meth c Z own n0 Bs En h cells slots pc Ls (.long x :: S) := by
  subst hp; exact Go.st (fun T X t q => XS.lstoreN X C.1 rfl (hb C.2.1 hd) rfl hl q) K
theorem Go.dload (C : Cx p meth c bytes ml ret) {k : Nat} {v : UInt64} (hd : decode bytes pc = .ok (.dload k, 2)) (hl : Ls[k]? = some (.val (.double v))) (hp : pc + 2 = pc') (K : Go p l e R s m args below meth c Z own n0 Bs En h cells slots pc' Ls (.double v :: S)) : Go p l e R s m args below meth c Z own n0 Bs En h cells slots pc Ls (S) := by
  subst hp; exact Go.st (fun T X t q => XS.dload X C.1 rfl (hb C.2.1 hd) hl q) K
theorem Go.dloadN (C : Cx p meth c bytes ml ret) {k : Fin 4} {v : UInt64} (hd : decode bytes pc = .ok (.dload_n k, 1)) (hl : Ls[k.val]? = some (.val (.double v))) (hp : pc + 1 = pc') (K : Go p l e R s m args below meth c Z own n0 Bs En h cells slots pc' Ls (.double v :: S)) : Go p l e R s m args below meth c Z own n0 Bs En h cells slots pc Ls (S) := by
  subst hp; exact Go.st (fun T X t q => XS.dloadN X C.1 rfl (hb C.2.1 hd) hl q) K
theorem Go.dstore (C : Cx p meth c bytes ml ret) {k : Nat} {x : UInt64} {L' : Array Slot} (hd : decode bytes pc = .ok (.dstore k, 2)) (hl : storeLocals Ls k (.double x) = some L') (hp : pc + 2 = pc') (K : Go p l e R s m args below meth c Z own n0 Bs En h cells slots pc' L' (S)) : Go p l e R s m args below meth c Z own n0 Bs En h cells slots pc Ls (.double x :: S) := by
  subst hp; exact Go.st (fun T X t q => XS.dstore X C.1 rfl (hb C.2.1 hd) rfl hl q) K
theorem Go.dstoreN (C : Cx p meth c bytes ml ret) {k : Fin 4} {x : UInt64} {L' : Array Slot} (hd : decode bytes pc = .ok (.dstore_n k, 1)) (hl : storeLocals Ls k.val (.double x) = some L') (hp : pc + 1 = pc') (K : Go p l e R s m args below meth c Z own n0 Bs En h cells slots pc' L' (S)) : Go p l e R s m args below meth c Z own n0 Bs En h cells slots pc Ls (.double x :: S) := by
  subst hp; exact Go.st (fun T X t q => XS.dstoreN X C.1 rfl (hb C.2.1 hd) rfl hl q) K
theorem Go.aload (C : Cx p meth c bytes ml ret) {k : Nat} {v : Value} (hd : decode bytes pc = .ok (.aload k, 2)) (hl : Ls[k]? = some (.val v)) (hv : v.isRef = true) (hp : pc + 2 = pc') (K : Go p l e R s m args below meth c Z own n0 Bs En h cells slots pc' Ls (v :: S)) : Go p l e R s m args below meth c Z own n0 Bs En h cells slots pc Ls (S) := by
  subst hp; exact Go.st (fun T X t q => XS.aload X C.1 rfl (hb C.2.1 hd) hl hv q) K
theorem Go.aloadN (C : Cx p meth c bytes ml ret) {k : Fin 4} {v : Value} (hd : decode bytes pc = .ok (.aload_n k, 1)) (hl : Ls[k.val]? = some (.val v)) (hv : v.isRef = true) (hp : pc + 1 = pc') (K : Go p l e R s m args below meth c Z own n0 Bs En h cells slots pc' Ls (v :: S)) : Go p l e R s m args below meth c Z own n0 Bs En h cells slots pc Ls (S) := by
  subst hp; exact Go.st (fun T X t q => XS.aloadN X C.1 rfl (hb C.2.1 hd) hl hv q) K
theorem Go.astore (C : Cx p meth c bytes ml ret) {k : Nat} {x : Value} {L' : Array Slot} (hd : decode bytes pc = .ok (.astore k, 2)) (hv : x.isRef = true) (hl : storeLocals Ls k x = some L') (hp : pc + 2 = pc') (K : Go p l e R s m args below meth c Z own n0 Bs En h cells slots pc' L' (S)) : Go p l e R s m args below meth c Z own n0 Bs En h cells slots pc Ls (x :: S) := by
  subst hp; exact Go.st (fun T X t q => XS.astore X C.1 rfl (hb C.2.1 hd) rfl hv hl q) K
theorem Go.astoreN (C : Cx p meth c bytes ml ret) {k : Fin 4} {x : Value} {L' : Array Slot} (hd : decode bytes pc = .ok (.astore_n k, 1)) (hv : x.isRef = true) (hl : storeLocals Ls k.val x = some L') (hp : pc + 1 = pc') (K : Go p l e R s m args below meth c Z own n0 Bs En h cells slots pc' L' (S)) : Go p l e R s m args below meth c Z own n0 Bs En h cells slots pc Ls (x :: S) := by
  subst hp; exact Go.st (fun T X t q => XS.astoreN X C.1 rfl (hb C.2.1 hd) rfl hv hl q) K
theorem Go.iconst (C : Cx p meth c bytes ml ret) {i : Int} {v : Int32} (hd : decode bytes pc = .ok (.iconst i, 1)) (hv : Int32.ofInt i = v) (hp : pc + 1 = pc') (K : Go p l e R s m args below meth c Z own n0 Bs En h cells slots pc' Ls (.int v :: S)) : Go p l e R s m args below meth c Z own n0 Bs En h cells slots pc Ls (S) := by
  subst hp; exact Go.st (fun T X t q => by subst hv; exact XS.iconst X C.1 rfl (hb C.2.1 hd)  q) K
theorem Go.lconst (C : Cx p meth c bytes ml ret) {k : Fin 2} {v : Int64} (hd : decode bytes pc = .ok (.lconst k, 1)) (hv : Int64.ofNat k = v) (hp : pc + 1 = pc') (K : Go p l e R s m args below meth c Z own n0 Bs En h cells slots pc' Ls (.long v :: S)) : Go p l e R s m args below meth c Z own n0 Bs En h cells slots pc Ls (S) := by
  subst hp; exact Go.st (fun T X t q => by subst hv; exact XS.lconst X C.1 rfl (hb C.2.1 hd)  q) K
theorem Go.dconst0 (C : Cx p meth c bytes ml ret) {v : UInt64} (hd : decode bytes pc = .ok (.dconst 0, 1)) (hv : FP.dconst0 = v) (hp : pc + 1 = pc') (K : Go p l e R s m args below meth c Z own n0 Bs En h cells slots pc' Ls (.double v :: S)) : Go p l e R s m args below meth c Z own n0 Bs En h cells slots pc Ls (S) := by
  subst hp; exact Go.st (fun T X t q => XS.dconst0 X C.1 rfl (hb C.2.1 hd) hv q) K
theorem Go.dconst1 (C : Cx p meth c bytes ml ret) {v : UInt64} (hd : decode bytes pc = .ok (.dconst 1, 1)) (hv : FP.dconst1 = v) (hp : pc + 1 = pc') (K : Go p l e R s m args below meth c Z own n0 Bs En h cells slots pc' Ls (.double v :: S)) : Go p l e R s m args below meth c Z own n0 Bs En h cells slots pc Ls (S) := by
  subst hp; exact Go.st (fun T X t q => XS.dconst1 X C.1 rfl (hb C.2.1 hd) hv q) K
theorem Go.bipush (C : Cx p meth c bytes ml ret) {i : Int} {v : Int32} (hd : decode bytes pc = .ok (.bipush i, 2)) (hv : (Int8.ofInt i).toInt32 = v) (hp : pc + 2 = pc') (K : Go p l e R s m args below meth c Z own n0 Bs En h cells slots pc' Ls (.int v :: S)) : Go p l e R s m args below meth c Z own n0 Bs En h cells slots pc Ls (S) := by
  subst hp; exact Go.st (fun T X t q => by subst hv; exact XS.bipush X C.1 rfl (hb C.2.1 hd)  q) K
theorem Go.sipush (C : Cx p meth c bytes ml ret) {i : Int} {v : Int32} (hd : decode bytes pc = .ok (.sipush i, 3)) (hv : (Int16.ofInt i).toInt32 = v) (hp : pc + 3 = pc') (K : Go p l e R s m args below meth c Z own n0 Bs En h cells slots pc' Ls (.int v :: S)) : Go p l e R s m args below meth c Z own n0 Bs En h cells slots pc Ls (S) := by
  subst hp; exact Go.st (fun T X t q => by subst hv; exact XS.sipush X C.1 rfl (hb C.2.1 hd)  q) K
theorem Go.aconstNull (C : Cx p meth c bytes ml ret)  (hd : decode bytes pc = .ok (.aconst_null, 1))  (hp : pc + 1 = pc') (K : Go p l e R s m args below meth c Z own n0 Bs En h cells slots pc' Ls (.null :: S)) : Go p l e R s m args below meth c Z own n0 Bs En h cells slots pc Ls (S) := by
  subst hp; exact Go.st (fun T X t q => XS.aconstNull X C.1 rfl (hb C.2.1 hd)  q) K
theorem Go.dup (C : Cx p meth c bytes ml ret) {x : Value} (hd : decode bytes pc = .ok (.dup, 1)) (hc : x.category = 1) (hp : pc + 1 = pc') (K : Go p l e R s m args below meth c Z own n0 Bs En h cells slots pc' Ls (x :: x :: S)) : Go p l e R s m args below meth c Z own n0 Bs En h cells slots pc Ls (x :: S) := by
  subst hp; exact Go.st (fun T X t q => XS.dup X C.1 rfl (hb C.2.1 hd) rfl hc q) K
theorem Go.dupX1 (C : Cx p meth c bytes ml ret) {x y : Value} (hd : decode bytes pc = .ok (.dup_x1, 1)) (hc : x.category = 1) (hc2 : y.category = 1) (hp : pc + 1 = pc') (K : Go p l e R s m args below meth c Z own n0 Bs En h cells slots pc' Ls (x :: y :: x :: S)) : Go p l e R s m args below meth c Z own n0 Bs En h cells slots pc Ls (x :: y :: S) := by
  subst hp; exact Go.st (fun T X t q => XS.dupX1 X C.1 rfl (hb C.2.1 hd) rfl hc hc2 q) K
theorem Go.pop (C : Cx p meth c bytes ml ret) {x : Value} (hd : decode bytes pc = .ok (.pop, 1)) (hc : x.category = 1) (hp : pc + 1 = pc') (K : Go p l e R s m args below meth c Z own n0 Bs En h cells slots pc' Ls (S)) : Go p l e R s m args below meth c Z own n0 Bs En h cells slots pc Ls (x :: S) := by
  subst hp; exact Go.st (fun T X t q => XS.pop X C.1 rfl (hb C.2.1 hd) rfl hc q) K
theorem Go.iadd (C : Cx p meth c bytes ml ret) {x y : Int32} (hd : decode bytes pc = .ok (.iadd, 1))  (hp : pc + 1 = pc') (K : Go p l e R s m args below meth c Z own n0 Bs En h cells slots pc' Ls (.int (x + y) :: S)) : Go p l e R s m args below meth c Z own n0 Bs En h cells slots pc Ls (.int y :: .int x :: S) := by
  subst hp; exact Go.st (fun T X t q => XS.iadd X C.1 rfl (hb C.2.1 hd) rfl q) K
theorem Go.isub (C : Cx p meth c bytes ml ret) {x y : Int32} (hd : decode bytes pc = .ok (.isub, 1))  (hp : pc + 1 = pc') (K : Go p l e R s m args below meth c Z own n0 Bs En h cells slots pc' Ls (.int (x - y) :: S)) : Go p l e R s m args below meth c Z own n0 Bs En h cells slots pc Ls (.int y :: .int x :: S) := by
  subst hp; exact Go.st (fun T X t q => XS.isub X C.1 rfl (hb C.2.1 hd) rfl q) K
theorem Go.imul (C : Cx p meth c bytes ml ret) {x y : Int32} (hd : decode bytes pc = .ok (.imul, 1))  (hp : pc + 1 = pc') (K : Go p l e R s m args below meth c Z own n0 Bs En h cells slots pc' Ls (.int (x * y) :: S)) : Go p l e R s m args below meth c Z own n0 Bs En h cells slots pc Ls (.int y :: .int x :: S) := by
  subst hp; exact Go.st (fun T X t q => XS.imul X C.1 rfl (hb C.2.1 hd) rfl q) K
theorem Go.iand (C : Cx p meth c bytes ml ret) {x y : Int32} (hd : decode bytes pc = .ok (.iand, 1))  (hp : pc + 1 = pc') (K : Go p l e R s m args below meth c Z own n0 Bs En h cells slots pc' Ls (.int (x &&& y) :: S)) : Go p l e R s m args below meth c Z own n0 Bs En h cells slots pc Ls (.int y :: .int x :: S) := by
  subst hp; exact Go.st (fun T X t q => XS.iand X C.1 rfl (hb C.2.1 hd) rfl q) K
theorem Go.ior (C : Cx p meth c bytes ml ret) {x y : Int32} (hd : decode bytes pc = .ok (.ior, 1))  (hp : pc + 1 = pc') (K : Go p l e R s m args below meth c Z own n0 Bs En h cells slots pc' Ls (.int (x ||| y) :: S)) : Go p l e R s m args below meth c Z own n0 Bs En h cells slots pc Ls (.int y :: .int x :: S) := by
  subst hp; exact Go.st (fun T X t q => XS.ior X C.1 rfl (hb C.2.1 hd) rfl q) K
theorem Go.ixor (C : Cx p meth c bytes ml ret) {x y : Int32} (hd : decode bytes pc = .ok (.ixor, 1))  (hp : pc + 1 = pc') (K : Go p l e R s m args below meth c Z own n0 Bs En h cells slots pc' Ls (.int (x ^^^ y) :: S)) : Go p l e R s m args below meth c Z own n0 Bs En h cells slots pc Ls (.int y :: .int x :: S) := by
  subst hp; exact Go.st (fun T X t q => XS.ixor X C.1 rfl (hb C.2.1 hd) rfl q) K
theorem Go.ishl (C : Cx p meth c bytes ml ret) {x y : Int32} (hd : decode bytes pc = .ok (.ishl, 1))  (hp : pc + 1 = pc') (K : Go p l e R s m args below meth c Z own n0 Bs En h cells slots pc' Ls (.int (x <<< (y &&& 31)) :: S)) : Go p l e R s m args below meth c Z own n0 Bs En h cells slots pc Ls (.int y :: .int x :: S) := by
  subst hp; exact Go.st (fun T X t q => XS.ishl X C.1 rfl (hb C.2.1 hd) rfl q) K
theorem Go.ishr (C : Cx p meth c bytes ml ret) {x y : Int32} (hd : decode bytes pc = .ok (.ishr, 1))  (hp : pc + 1 = pc') (K : Go p l e R s m args below meth c Z own n0 Bs En h cells slots pc' Ls (.int (x >>> (y &&& 31)) :: S)) : Go p l e R s m args below meth c Z own n0 Bs En h cells slots pc Ls (.int y :: .int x :: S) := by
  subst hp; exact Go.st (fun T X t q => XS.ishr X C.1 rfl (hb C.2.1 hd) rfl q) K
theorem Go.iushr (C : Cx p meth c bytes ml ret) {x y : Int32} (hd : decode bytes pc = .ok (.iushr, 1))  (hp : pc + 1 = pc') (K : Go p l e R s m args below meth c Z own n0 Bs En h cells slots pc' Ls (.int ((x.toUInt32 >>> (y &&& 31).toUInt32).toInt32) :: S)) : Go p l e R s m args below meth c Z own n0 Bs En h cells slots pc Ls (.int y :: .int x :: S) := by
  subst hp; exact Go.st (fun T X t q => XS.iushr X C.1 rfl (hb C.2.1 hd) rfl q) K
theorem Go.idiv (C : Cx p meth c bytes ml ret) {x y : Int32} (hd : decode bytes pc = .ok (.idiv, 1)) (hy : y ≠ 0) (hp : pc + 1 = pc') (K : Go p l e R s m args below meth c Z own n0 Bs En h cells slots pc' Ls (.int (x / y) :: S)) : Go p l e R s m args below meth c Z own n0 Bs En h cells slots pc Ls (.int y :: .int x :: S) := by
  subst hp; exact Go.st (fun T X t q => XS.idiv X C.1 rfl (hb C.2.1 hd) rfl hy q) K
theorem Go.irem (C : Cx p meth c bytes ml ret) {x y : Int32} (hd : decode bytes pc = .ok (.irem, 1)) (hy : y ≠ 0) (hp : pc + 1 = pc') (K : Go p l e R s m args below meth c Z own n0 Bs En h cells slots pc' Ls (.int (x % y) :: S)) : Go p l e R s m args below meth c Z own n0 Bs En h cells slots pc Ls (.int y :: .int x :: S) := by
  subst hp; exact Go.st (fun T X t q => XS.irem X C.1 rfl (hb C.2.1 hd) rfl hy (by rw [irem_eq_mod]; exact q)) K
theorem Go.ladd (C : Cx p meth c bytes ml ret) {x y : Int64} (hd : decode bytes pc = .ok (.ladd, 1))  (hp : pc + 1 = pc') (K : Go p l e R s m args below meth c Z own n0 Bs En h cells slots pc' Ls (.long (x + y) :: S)) : Go p l e R s m args below meth c Z own n0 Bs En h cells slots pc Ls (.long y :: .long x :: S) := by
  subst hp; exact Go.st (fun T X t q => XS.ladd X C.1 rfl (hb C.2.1 hd) rfl q) K
theorem Go.lsub (C : Cx p meth c bytes ml ret) {x y : Int64} (hd : decode bytes pc = .ok (.lsub, 1))  (hp : pc + 1 = pc') (K : Go p l e R s m args below meth c Z own n0 Bs En h cells slots pc' Ls (.long (x - y) :: S)) : Go p l e R s m args below meth c Z own n0 Bs En h cells slots pc Ls (.long y :: .long x :: S) := by
  subst hp; exact Go.st (fun T X t q => XS.lsub X C.1 rfl (hb C.2.1 hd) rfl q) K
theorem Go.lmul (C : Cx p meth c bytes ml ret) {x y : Int64} (hd : decode bytes pc = .ok (.lmul, 1))  (hp : pc + 1 = pc') (K : Go p l e R s m args below meth c Z own n0 Bs En h cells slots pc' Ls (.long (x * y) :: S)) : Go p l e R s m args below meth c Z own n0 Bs En h cells slots pc Ls (.long y :: .long x :: S) := by
  subst hp; exact Go.st (fun T X t q => XS.lmul X C.1 rfl (hb C.2.1 hd) rfl q) K
theorem Go.land (C : Cx p meth c bytes ml ret) {x y : Int64} (hd : decode bytes pc = .ok (.land, 1))  (hp : pc + 1 = pc') (K : Go p l e R s m args below meth c Z own n0 Bs En h cells slots pc' Ls (.long (x &&& y) :: S)) : Go p l e R s m args below meth c Z own n0 Bs En h cells slots pc Ls (.long y :: .long x :: S) := by
  subst hp; exact Go.st (fun T X t q => XS.land X C.1 rfl (hb C.2.1 hd) rfl q) K
theorem Go.lor (C : Cx p meth c bytes ml ret) {x y : Int64} (hd : decode bytes pc = .ok (.lor, 1))  (hp : pc + 1 = pc') (K : Go p l e R s m args below meth c Z own n0 Bs En h cells slots pc' Ls (.long (x ||| y) :: S)) : Go p l e R s m args below meth c Z own n0 Bs En h cells slots pc Ls (.long y :: .long x :: S) := by
  subst hp; exact Go.st (fun T X t q => XS.lor X C.1 rfl (hb C.2.1 hd) rfl q) K
theorem Go.lxor (C : Cx p meth c bytes ml ret) {x y : Int64} (hd : decode bytes pc = .ok (.lxor, 1))  (hp : pc + 1 = pc') (K : Go p l e R s m args below meth c Z own n0 Bs En h cells slots pc' Ls (.long (x ^^^ y) :: S)) : Go p l e R s m args below meth c Z own n0 Bs En h cells slots pc Ls (.long y :: .long x :: S) := by
  subst hp; exact Go.st (fun T X t q => XS.lxor X C.1 rfl (hb C.2.1 hd) rfl q) K
theorem Go.lshl (C : Cx p meth c bytes ml ret) {x : Int64} {y : Int32} (hd : decode bytes pc = .ok (.lshl, 1))  (hp : pc + 1 = pc') (K : Go p l e R s m args below meth c Z own n0 Bs En h cells slots pc' Ls (.long (x <<< (y &&& 0x3f).toInt64) :: S)) : Go p l e R s m args below meth c Z own n0 Bs En h cells slots pc Ls (.int y :: .long x :: S) := by
  subst hp; exact Go.st (fun T X t q => XS.lshl X C.1 rfl (hb C.2.1 hd) rfl q) K
theorem Go.lshr (C : Cx p meth c bytes ml ret) {x : Int64} {y : Int32} (hd : decode bytes pc = .ok (.lshr, 1))  (hp : pc + 1 = pc') (K : Go p l e R s m args below meth c Z own n0 Bs En h cells slots pc' Ls (.long (x >>> (y &&& 0x3f).toInt64) :: S)) : Go p l e R s m args below meth c Z own n0 Bs En h cells slots pc Ls (.int y :: .long x :: S) := by
  subst hp; exact Go.st (fun T X t q => XS.lshr X C.1 rfl (hb C.2.1 hd) rfl q) K
theorem Go.lushr (C : Cx p meth c bytes ml ret) {x : Int64} {y : Int32} (hd : decode bytes pc = .ok (.lushr, 1))  (hp : pc + 1 = pc') (K : Go p l e R s m args below meth c Z own n0 Bs En h cells slots pc' Ls (.long ((x.toUInt64 >>> (y &&& 0x3f).toInt64.toUInt64).toInt64) :: S)) : Go p l e R s m args below meth c Z own n0 Bs En h cells slots pc Ls (.int y :: .long x :: S) := by
  subst hp; exact Go.st (fun T X t q => XS.lushr X C.1 rfl (hb C.2.1 hd) rfl q) K
theorem Go.ineg (C : Cx p meth c bytes ml ret) {v : Int32} (hd : decode bytes pc = .ok (.ineg, 1))  (hp : pc + 1 = pc') (K : Go p l e R s m args below meth c Z own n0 Bs En h cells slots pc' Ls (.int (-v) :: S)) : Go p l e R s m args below meth c Z own n0 Bs En h cells slots pc Ls (.int v :: S) := by
  subst hp; exact Go.st (fun T X t q => XS.ineg X C.1 rfl (hb C.2.1 hd) rfl q) K
theorem Go.i2b (C : Cx p meth c bytes ml ret) {v : Int32} (hd : decode bytes pc = .ok (.i2b, 1))  (hp : pc + 1 = pc') (K : Go p l e R s m args below meth c Z own n0 Bs En h cells slots pc' Ls (.int (v.toInt8.toInt32) :: S)) : Go p l e R s m args below meth c Z own n0 Bs En h cells slots pc Ls (.int v :: S) := by
  subst hp; exact Go.st (fun T X t q => XS.i2b X C.1 rfl (hb C.2.1 hd) rfl q) K
theorem Go.i2c (C : Cx p meth c bytes ml ret) {v : Int32} (hd : decode bytes pc = .ok (.i2c, 1))  (hp : pc + 1 = pc') (K : Go p l e R s m args below meth c Z own n0 Bs En h cells slots pc' Ls (.int (v.toUInt32.toUInt16.toUInt32.toInt32) :: S)) : Go p l e R s m args below meth c Z own n0 Bs En h cells slots pc Ls (.int v :: S) := by
  subst hp; exact Go.st (fun T X t q => XS.i2c X C.1 rfl (hb C.2.1 hd) rfl q) K
theorem Go.i2s (C : Cx p meth c bytes ml ret) {v : Int32} (hd : decode bytes pc = .ok (.i2s, 1))  (hp : pc + 1 = pc') (K : Go p l e R s m args below meth c Z own n0 Bs En h cells slots pc' Ls (.int (v.toInt16.toInt32) :: S)) : Go p l e R s m args below meth c Z own n0 Bs En h cells slots pc Ls (.int v :: S) := by
  subst hp; exact Go.st (fun T X t q => XS.i2s X C.1 rfl (hb C.2.1 hd) rfl q) K
theorem Go.i2l (C : Cx p meth c bytes ml ret) {v : Int32} (hd : decode bytes pc = .ok (.i2l, 1))  (hp : pc + 1 = pc') (K : Go p l e R s m args below meth c Z own n0 Bs En h cells slots pc' Ls (.long (v.toInt64) :: S)) : Go p l e R s m args below meth c Z own n0 Bs En h cells slots pc Ls (.int v :: S) := by
  subst hp; exact Go.st (fun T X t q => XS.i2l X C.1 rfl (hb C.2.1 hd) rfl q) K
theorem Go.l2i (C : Cx p meth c bytes ml ret) {v : Int64} (hd : decode bytes pc = .ok (.l2i, 1))  (hp : pc + 1 = pc') (K : Go p l e R s m args below meth c Z own n0 Bs En h cells slots pc' Ls (.int (v.toInt32) :: S)) : Go p l e R s m args below meth c Z own n0 Bs En h cells slots pc Ls (.long v :: S) := by
  subst hp; exact Go.st (fun T X t q => XS.l2i X C.1 rfl (hb C.2.1 hd) rfl q) K
theorem Go.lneg (C : Cx p meth c bytes ml ret) {v : Int64} (hd : decode bytes pc = .ok (.lneg, 1))  (hp : pc + 1 = pc') (K : Go p l e R s m args below meth c Z own n0 Bs En h cells slots pc' Ls (.long (-v) :: S)) : Go p l e R s m args below meth c Z own n0 Bs En h cells slots pc Ls (.long v :: S) := by
  subst hp; exact Go.st (fun T X t q => XS.lneg X C.1 rfl (hb C.2.1 hd) rfl q) K
theorem Go.lcmp (C : Cx p meth c bytes ml ret) {x y : Int64} (hd : decode bytes pc = .ok (.lcmp, 1))  (hp : pc + 1 = pc') (K : Go p l e R s m args below meth c Z own n0 Bs En h cells slots pc' Ls (.int (lcmpW x y) :: S)) : Go p l e R s m args below meth c Z own n0 Bs En h cells slots pc Ls (.long y :: .long x :: S) := by
  subst hp; exact Go.st (fun T X t q => XS.lcmp X C.1 rfl (hb C.2.1 hd) rfl q) K
theorem Go.i2d (C : Cx p meth c bytes ml ret) {x : Int32} {v : UInt64} (hd : decode bytes pc = .ok (.i2d, 1)) (hv : FP.i2d x = v) (hp : pc + 1 = pc') (K : Go p l e R s m args below meth c Z own n0 Bs En h cells slots pc' Ls (.double v :: S)) : Go p l e R s m args below meth c Z own n0 Bs En h cells slots pc Ls (.int x :: S) := by
  subst hp; exact Go.st (fun T X t q => XS.i2dS X C.1 rfl (hb C.2.1 hd) rfl hv q) K
theorem Go.l2d (C : Cx p meth c bytes ml ret) {x : Int64} {v : UInt64} (hd : decode bytes pc = .ok (.l2d, 1)) (hv : FP.l2d x = v) (hp : pc + 1 = pc') (K : Go p l e R s m args below meth c Z own n0 Bs En h cells slots pc' Ls (.double v :: S)) : Go p l e R s m args below meth c Z own n0 Bs En h cells slots pc Ls (.long x :: S) := by
  subst hp; exact Go.st (fun T X t q => XS.l2dS X C.1 rfl (hb C.2.1 hd) rfl hv q) K
theorem Go.dadd (C : Cx p meth c bytes ml ret) {x y v : UInt64} (hd : decode bytes pc = .ok (.dadd, 1)) (hn : Jvm.Free.Fl.NoNaN64 (FP.dadd x y)) (hv : FP.dadd x y = v) (hp : pc + 1 = pc') (K : Go p l e R s m args below meth c Z own n0 Bs En h cells slots pc' Ls (.double v :: S)) : Go p l e R s m args below meth c Z own n0 Bs En h cells slots pc Ls (.double y :: .double x :: S) := by
  subst hp; exact Go.st (fun T X t q => XS.daddS X C.1 rfl (hb C.2.1 hd) rfl hn hv q) K
theorem Go.dsub (C : Cx p meth c bytes ml ret) {x y v : UInt64} (hd : decode bytes pc = .ok (.dsub, 1)) (hn : Jvm.Free.Fl.NoNaN64 (FP.dsub x y)) (hv : FP.dsub x y = v) (hp : pc + 1 = pc') (K : Go p l e R s m args below meth c Z own n0 Bs En h cells slots pc' Ls (.double v :: S)) : Go p l e R s m args below meth c Z own n0 Bs En h cells slots pc Ls (.double y :: .double x :: S) := by
  subst hp; exact Go.st (fun T X t q => XS.dsubS X C.1 rfl (hb C.2.1 hd) rfl hn hv q) K
theorem Go.dmul (C : Cx p meth c bytes ml ret) {x y v : UInt64} (hd : decode bytes pc = .ok (.dmul, 1)) (hn : Jvm.Free.Fl.NoNaN64 (FP.dmul x y)) (hv : FP.dmul x y = v) (hp : pc + 1 = pc') (K : Go p l e R s m args below meth c Z own n0 Bs En h cells slots pc' Ls (.double v :: S)) : Go p l e R s m args below meth c Z own n0 Bs En h cells slots pc Ls (.double y :: .double x :: S) := by
  subst hp; exact Go.st (fun T X t q => XS.dmulS X C.1 rfl (hb C.2.1 hd) rfl hn hv q) K
theorem Go.ddiv (C : Cx p meth c bytes ml ret) {x y v : UInt64} (hd : decode bytes pc = .ok (.ddiv, 1)) (hn : Jvm.Free.Fl.NoNaN64 (FP.ddiv x y)) (hv : FP.ddiv x y = v) (hp : pc + 1 = pc') (K : Go p l e R s m args below meth c Z own n0 Bs En h cells slots pc' Ls (.double v :: S)) : Go p l e R s m args below meth c Z own n0 Bs En h cells slots pc Ls (.double y :: .double x :: S) := by
  subst hp; exact Go.st (fun T X t q => XS.ddivS X C.1 rfl (hb C.2.1 hd) rfl hn hv q) K
theorem Go.dcmp (C : Cx p meth c bytes ml ret) {o : CmpOp} {x y : UInt64} {v : Int32} (hd : decode bytes pc = .ok (.dcmp o, 1)) (hv : cmpValue (FP.dcmp x y) o = v) (hp : pc + 1 = pc') (K : Go p l e R s m args below meth c Z own n0 Bs En h cells slots pc' Ls (.int v :: S)) : Go p l e R s m args below meth c Z own n0 Bs En h cells slots pc Ls (.double y :: .double x :: S) := by
  subst hp; exact Go.st (fun T X t q => XS.dcmpS X C.1 rfl (hb C.2.1 hd) rfl hv q) K
theorem Go.iinc (C : Cx p meth c bytes ml ret) {k : Nat} {cst : Int} {x y : Int32} {L' : Array Slot} (hd : decode bytes pc = .ok (.iinc k cst, 3)) (hl : Ls[k]? = some (.val (.int x))) (hy : x + Int32.ofInt cst = y) (hl' : storeLocals Ls k (.int y) = some L') (hp : pc + 3 = pc') (K : Go p l e R s m args below meth c Z own n0 Bs En h cells slots pc' L' (S)) : Go p l e R s m args below meth c Z own n0 Bs En h cells slots pc Ls (S) := by
  subst hp; exact Go.st (fun T X t q => by subst hy; exact XS.iinc X C.1 rfl (hb C.2.1 hd) hl hl' q) K
theorem Go.goto (C : Cx p meth c bytes ml ret) {o : Int} (hd : decode bytes pc = .ok (.goto o, 3)) (ho : 0 ≤ (pc : Int) + o) (hp : ((pc : Int) + o).toNat = pc') (K : Go p l e R s m args below meth c Z own n0 Bs En h cells slots pc' Ls S) : Go p l e R s m args below meth c Z own n0 Bs En h cells slots pc Ls S := Go.st (fun T X t q => XS.goto X C.1 rfl rfl (hb C.2.1 hd) ho hp q) K
theorem Go.icmp_eq_t (C : Cx p meth c bytes ml ret) {x y : Int32} {o : Int} (hd : decode bytes pc = .ok (.if_icmp .eq o, 3)) (H : x = y) (ho : 0 ≤ (pc : Int) + o) (hp : ((pc : Int) + o).toNat = pc') (K : Go p l e R s m args below meth c Z own n0 Bs En h cells slots pc' Ls S) : Go p l e R s m args below meth c Z own n0 Bs En h cells slots pc Ls (.int y :: .int x :: S) := Go.st (fun T X t q => XS.icmpYes X C.1 rfl rfl (hb C.2.1 hd) rfl ((teq H).1) ho hp q) K
theorem Go.icmp_eq_f (C : Cx p meth c bytes ml ret) {x y : Int32} {o : Int} (hd : decode bytes pc = .ok (.if_icmp .eq o, 3)) (H : ¬ x = y) (hp : pc + 3 = pc') (K : Go p l e R s m args below meth c Z own n0 Bs En h cells slots pc' Ls S) : Go p l e R s m args below meth c Z own n0 Bs En h cells slots pc Ls (.int y :: .int x :: S) := by
  subst hp; exact Go.st (fun T X t q => XS.icmpNo X C.1 rfl (hb C.2.1 hd) rfl ((feq H).1) q) K
theorem Go.icmp_eq (C : Cx p meth c bytes ml ret) {pc1 pc2 : Nat} {x y : Int32} {o : Int} (hd : decode bytes pc = .ok (.if_icmp .eq o, 3)) (ho : 0 ≤ (pc : Int) + o) (hp : ((pc : Int) + o).toNat = pc1) (hp2 : pc + 3 = pc2) (K1 : x = y → Go p l e R s m args below meth c Z own n0 Bs En h cells slots pc1 Ls S) (K2 : ¬ x = y → Go p l e R s m args below meth c Z own n0 Bs En h cells slots pc2 Ls S) : Go p l e R s m args below meth c Z own n0 Bs En h cells slots pc Ls (.int y :: .int x :: S) := by
  by_cases H : x = y
  · exact Go.icmp_eq_t C hd H ho hp (K1 H)
  · exact Go.icmp_eq_f C hd H hp2 (K2 H)
theorem Go.if_eq_t (C : Cx p meth c bytes ml ret) {x : Int32} {o : Int} (hd : decode bytes pc = .ok (.ifCond .eq o, 3)) (H : x = 0) (ho : 0 ≤ (pc : Int) + o) (hp : ((pc : Int) + o).toNat = pc') (K : Go p l e R s m args below meth c Z own n0 Bs En h cells slots pc' Ls S) : Go p l e R s m args below meth c Z own n0 Bs En h cells slots pc Ls (.int x :: S) := Go.st (fun T X t q => XS.ifYes X C.1 rfl rfl (hb C.2.1 hd) rfl ((if0 _ _).trans ((teq H).1)) ho hp q) K
theorem Go.if_eq_f (C : Cx p meth c bytes ml ret) {x : Int32} {o : Int} (hd : decode bytes pc = .ok (.ifCond .eq o, 3)) (H : ¬ x = 0) (hp : pc + 3 = pc') (K : Go p l e R s m args below meth c Z own n0 Bs En h cells slots pc' Ls S) : Go p l e R s m args below meth c Z own n0 Bs En h cells slots pc Ls (.int x :: S) := by
  subst hp; exact Go.st (fun T X t q => XS.ifNo X C.1 rfl (hb C.2.1 hd) rfl ((if0 _ _).trans ((feq H).1)) q) K
theorem Go.if_eq (C : Cx p meth c bytes ml ret) {pc1 pc2 : Nat} {x : Int32} {o : Int} (hd : decode bytes pc = .ok (.ifCond .eq o, 3)) (ho : 0 ≤ (pc : Int) + o) (hp : ((pc : Int) + o).toNat = pc1) (hp2 : pc + 3 = pc2) (K1 : x = 0 → Go p l e R s m args below meth c Z own n0 Bs En h cells slots pc1 Ls S) (K2 : ¬ x = 0 → Go p l e R s m args below meth c Z own n0 Bs En h cells slots pc2 Ls S) : Go p l e R s m args below meth c Z own n0 Bs En h cells slots pc Ls (.int x :: S) := by
  by_cases H : x = 0
  · exact Go.if_eq_t C hd H ho hp (K1 H)
  · exact Go.if_eq_f C hd H hp2 (K2 H)
theorem Go.icmp_ne_t (C : Cx p meth c bytes ml ret) {x y : Int32} {o : Int} (hd : decode bytes pc = .ok (.if_icmp .ne o, 3)) (H : ¬ x = y) (ho : 0 ≤ (pc : Int) + o) (hp : ((pc : Int) + o).toNat = pc') (K : Go p l e R s m args below meth c Z own n0 Bs En h cells slots pc' Ls S) : Go p l e R s m args below meth c Z own n0 Bs En h cells slots pc Ls (.int y :: .int x :: S) := Go.st (fun T X t q => XS.icmpYes X C.1 rfl rfl (hb C.2.1 hd) rfl ((feq H).2) ho hp q) K
theorem Go.icmp_ne_f (C : Cx p meth c bytes ml ret) {x y : Int32} {o : Int} (hd : decode bytes pc = .ok (.if_icmp .ne o, 3)) (H : x = y) (hp : pc + 3 = pc') (K : Go p l e R s m args below meth c Z own n0 Bs En h cells slots pc' Ls S) : Go p l e R s m args below meth c Z own n0 Bs En h cells slots pc Ls (.int y :: .int x :: S) := by
  subst hp; exact Go.st (fun T X t q => XS.icmpNo X C.1 rfl (hb C.2.1 hd) rfl ((teq H).2) q) K
theorem Go.icmp_ne (C : Cx p meth c bytes ml ret) {pc1 pc2 : Nat} {x y : Int32} {o : Int} (hd : decode bytes pc = .ok (.if_icmp .ne o, 3)) (ho : 0 ≤ (pc : Int) + o) (hp : ((pc : Int) + o).toNat = pc1) (hp2 : pc + 3 = pc2) (K1 : ¬ x = y → Go p l e R s m args below meth c Z own n0 Bs En h cells slots pc1 Ls S) (K2 : x = y → Go p l e R s m args below meth c Z own n0 Bs En h cells slots pc2 Ls S) : Go p l e R s m args below meth c Z own n0 Bs En h cells slots pc Ls (.int y :: .int x :: S) := by
  by_cases H : x = y
  · exact Go.icmp_ne_f C hd H hp2 (K2 H)
  · exact Go.icmp_ne_t C hd H ho hp (K1 H)
theorem Go.if_ne_t (C : Cx p meth c bytes ml ret) {x : Int32} {o : Int} (hd : decode bytes pc = .ok (.ifCond .ne o, 3)) (H : ¬ x = 0) (ho : 0 ≤ (pc : Int) + o) (hp : ((pc : Int) + o).toNat = pc') (K : Go p l e R s m args below meth c Z own n0 Bs En h cells slots pc' Ls S) : Go p l e R s m args below meth c Z own n0 Bs En h cells slots pc Ls (.int x :: S) := Go.st (fun T X t q => XS.ifYes X C.1 rfl rfl (hb C.2.1 hd) rfl ((if0 _ _).trans ((feq H).2)) ho hp q) K
theorem Go.if_ne_f (C : Cx p meth c bytes ml ret) {x : Int32} {o : Int} (hd : decode bytes pc = .ok (.ifCond .ne o, 3)) (H : x = 0) (hp : pc + 3 = pc') (K : Go p l e R s m args below meth c Z own n0 Bs En h cells slots pc' Ls S) : Go p l e R s m args below meth c Z own n0 Bs En h cells slots pc Ls (.int x :: S) := by
  subst hp; exact Go.st (fun T X t q => XS.ifNo X C.1 rfl (hb C.2.1 hd) rfl ((if0 _ _).trans ((teq H).2)) q) K
theorem Go.if_ne (C : Cx p meth c bytes ml ret) {pc1 pc2 : Nat} {x : Int32} {o : Int} (hd : decode bytes pc = .ok (.ifCond .ne o, 3)) (ho : 0 ≤ (pc : Int) + o) (hp : ((pc : Int) + o).toNat = pc1) (hp2 : pc + 3 = pc2) (K1 : ¬ x = 0 → Go p l e R s m args below meth c Z own n0 Bs En h cells slots pc1 Ls S) (K2 : x = 0 → Go p l e R s m args below meth c Z own n0 Bs En h cells slots pc2 Ls S) : Go p l e R s m args below meth c Z own n0 Bs En h cells slots pc Ls (.int x :: S) := by
  by_cases H : x = 0
  · exact Go.if_ne_f C hd H hp2 (K2 H)
  · exact Go.if_ne_t C hd H ho hp (K1 H)
theorem Go.icmp_lt_t (C : Cx p meth c bytes ml ret) {x y : Int32} {o : Int} (hd : decode bytes pc = .ok (.if_icmp .lt o, 3)) (H : x < y) (ho : 0 ≤ (pc : Int) + o) (hp : ((pc : Int) + o).toNat = pc') (K : Go p l e R s m args below meth c Z own n0 Bs En h cells slots pc' Ls S) : Go p l e R s m args below meth c Z own n0 Bs En h cells slots pc Ls (.int y :: .int x :: S) := Go.st (fun T X t q => XS.icmpYes X C.1 rfl rfl (hb C.2.1 hd) rfl ((tlt H).1) ho hp q) K
theorem Go.icmp_lt_f (C : Cx p meth c bytes ml ret) {x y : Int32} {o : Int} (hd : decode bytes pc = .ok (.if_icmp .lt o, 3)) (H : ¬ x < y) (hp : pc + 3 = pc') (K : Go p l e R s m args below meth c Z own n0 Bs En h cells slots pc' Ls S) : Go p l e R s m args below meth c Z own n0 Bs En h cells slots pc Ls (.int y :: .int x :: S) := by
  subst hp; exact Go.st (fun T X t q => XS.icmpNo X C.1 rfl (hb C.2.1 hd) rfl ((flt H).1) q) K
theorem Go.icmp_lt (C : Cx p meth c bytes ml ret) {pc1 pc2 : Nat} {x y : Int32} {o : Int} (hd : decode bytes pc = .ok (.if_icmp .lt o, 3)) (ho : 0 ≤ (pc : Int) + o) (hp : ((pc : Int) + o).toNat = pc1) (hp2 : pc + 3 = pc2) (K1 : x < y → Go p l e R s m args below meth c Z own n0 Bs En h cells slots pc1 Ls S) (K2 : ¬ x < y → Go p l e R s m args below meth c Z own n0 Bs En h cells slots pc2 Ls S) : Go p l e R s m args below meth c Z own n0 Bs En h cells slots pc Ls (.int y :: .int x :: S) := by
  by_cases H : x < y
  · exact Go.icmp_lt_t C hd H ho hp (K1 H)
  · exact Go.icmp_lt_f C hd H hp2 (K2 H)
theorem Go.if_lt_t (C : Cx p meth c bytes ml ret) {x : Int32} {o : Int} (hd : decode bytes pc = .ok (.ifCond .lt o, 3)) (H : x < 0) (ho : 0 ≤ (pc : Int) + o) (hp : ((pc : Int) + o).toNat = pc') (K : Go p l e R s m args below meth c Z own n0 Bs En h cells slots pc' Ls S) : Go p l e R s m args below meth c Z own n0 Bs En h cells slots pc Ls (.int x :: S) := Go.st (fun T X t q => XS.ifYes X C.1 rfl rfl (hb C.2.1 hd) rfl ((if0 _ _).trans ((tlt H).1)) ho hp q) K
theorem Go.if_lt_f (C : Cx p meth c bytes ml ret) {x : Int32} {o : Int} (hd : decode bytes pc = .ok (.ifCond .lt o, 3)) (H : ¬ x < 0) (hp : pc + 3 = pc') (K : Go p l e R s m args below meth c Z own n0 Bs En h cells slots pc' Ls S) : Go p l e R s m args below meth c Z own n0 Bs En h cells slots pc Ls (.int x :: S) := by
  subst hp; exact Go.st (fun T X t q => XS.ifNo X C.1 rfl (hb C.2.1 hd) rfl ((if0 _ _).trans ((flt H).1)) q) K
theorem Go.if_lt (C : Cx p meth c bytes ml ret) {pc1 pc2 : Nat} {x : Int32} {o : Int} (hd : decode bytes pc = .ok (.ifCond .lt o, 3)) (ho : 0 ≤ (pc : Int) + o) (hp : ((pc : Int) + o).toNat = pc1) (hp2 : pc + 3 = pc2) (K1 : x < 0 → Go p l e R s m args below meth c Z own n0 Bs En h cells slots pc1 Ls S) (K2 : ¬ x < 0 → Go p l e R s m args below meth c Z own n0 Bs En h cells slots pc2 Ls S) : Go p l e R s m args below meth c Z own n0 Bs En h cells slots pc Ls (.int x :: S) := by
  by_cases H : x < 0
  · exact Go.if_lt_t C hd H ho hp (K1 H)
  · exact Go.if_lt_f C hd H hp2 (K2 H)
theorem Go.icmp_ge_t (C : Cx p meth c bytes ml ret) {x y : Int32} {o : Int} (hd : decode bytes pc = .ok (.if_icmp .ge o, 3)) (H : ¬ x < y) (ho : 0 ≤ (pc : Int) + o) (hp : ((pc : Int) + o).toNat = pc') (K : Go p l e R s m args below meth c Z own n0 Bs En h cells slots pc' Ls S) : Go p l e R s m args below meth c Z own n0 Bs En h cells slots pc Ls (.int y :: .int x :: S) := Go.st (fun T X t q => XS.icmpYes X C.1 rfl rfl (hb C.2.1 hd) rfl ((flt H).2.1) ho hp q) K
theorem Go.icmp_ge_f (C : Cx p meth c bytes ml ret) {x y : Int32} {o : Int} (hd : decode bytes pc = .ok (.if_icmp .ge o, 3)) (H : x < y) (hp : pc + 3 = pc') (K : Go p l e R s m args below meth c Z own n0 Bs En h cells slots pc' Ls S) : Go p l e R s m args below meth c Z own n0 Bs En h cells slots pc Ls (.int y :: .int x :: S) := by
  subst hp; exact Go.st (fun T X t q => XS.icmpNo X C.1 rfl (hb C.2.1 hd) rfl ((tlt H).2.1) q) K
theorem Go.icmp_ge (C : Cx p meth c bytes ml ret) {pc1 pc2 : Nat} {x y : Int32} {o : Int} (hd : decode bytes pc = .ok (.if_icmp .ge o, 3)) (ho : 0 ≤ (pc : Int) + o) (hp : ((pc : Int) + o).toNat = pc1) (hp2 : pc + 3 = pc2) (K1 : ¬ x < y → Go p l e R s m args below meth c Z own n0 Bs En h cells slots pc1 Ls S) (K2 : x < y → Go p l e R s m args below meth c Z own n0 Bs En h cells slots pc2 Ls S) : Go p l e R s m args below meth c Z own n0 Bs En h cells slots pc Ls (.int y :: .int x :: S) := by
  by_cases H : x < y
  · exact Go.icmp_ge_f C hd H hp2 (K2 H)
  · exact Go.icmp_ge_t C hd H ho hp (K1 H)
theorem Go.if_ge_t (C : Cx p meth c bytes ml ret) {x : Int32} {o : Int} (hd : decode bytes pc = .ok (.ifCond .ge o, 3)) (H : ¬ x < 0) (ho : 0 ≤ (pc : Int) + o) (hp : ((pc : Int) + o).toNat = pc') (K : Go p l e R s m args below meth c Z own n0 Bs En h cells slots pc' Ls S) : Go p l e R s m args below meth c Z own n0 Bs En h cells slots pc Ls (.int x :: S) := Go.st (fun T X t q => XS.ifYes X C.1 rfl rfl (hb C.2.1 hd) rfl ((if0 _ _).trans ((flt H).2.1)) ho hp q) K
theorem Go.if_ge_f (C : Cx p meth c bytes ml ret) {x : Int32} {o : Int} (hd : decode bytes pc = .ok (.ifCond .ge o, 3)) (H : x < 0) (hp : pc + 3 = pc') (K : Go p l e R s m args below meth c Z own n0 Bs En h cells slots pc' Ls S) : Go p l e R s m args below meth c Z own n0 Bs En h cells slots pc Ls (.int x :: S) := by
  subst hp; exact Go.st (fun T X t q => XS.ifNo X C.1 rfl (hb C.2.1 hd) rfl ((if0 _ _).trans ((tlt H).2.1)) q) K
theorem Go.if_ge (C : Cx p meth c bytes ml ret) {pc1 pc2 : Nat} {x : Int32} {o : Int} (hd : decode bytes pc = .ok (.ifCond .ge o, 3)) (ho : 0 ≤ (pc : Int) + o) (hp : ((pc : Int) + o).toNat = pc1) (hp2 : pc + 3 = pc2) (K1 : ¬ x < 0 → Go p l e R s m args below meth c Z own n0 Bs En h cells slots pc1 Ls S) (K2 : x < 0 → Go p l e R s m args below meth c Z own n0 Bs En h cells slots pc2 Ls S) : Go p l e R s m args below meth c Z own n0 Bs En h cells slots pc Ls (.int x :: S) := by
  by_cases H : x < 0
  · exact Go.if_ge_f C hd H hp2 (K2 H)
  · exact Go.if_ge_t C hd H ho hp (K1 H)
theorem Go.icmp_gt_t (C : Cx p meth c bytes ml ret) {x y : Int32} {o : Int} (hd : decode bytes pc = .ok (.if_icmp .gt o, 3)) (H : y < x) (ho : 0 ≤ (pc : Int) + o) (hp : ((pc : Int) + o).toNat = pc') (K : Go p l e R s m args below meth c Z own n0 Bs En h cells slots pc' Ls S) : Go p l e R s m args below meth c Z own n0 Bs En h cells slots pc Ls (.int y :: .int x :: S) := Go.st (fun T X t q => XS.icmpYes X C.1 rfl rfl (hb C.2.1 hd) rfl ((tlt H).2.2.1) ho hp q) K
theorem Go.icmp_gt_f (C : Cx p meth c bytes ml ret) {x y : Int32} {o : Int} (hd : decode bytes pc = .ok (.if_icmp .gt o, 3)) (H : ¬ y < x) (hp : pc + 3 = pc') (K : Go p l e R s m args below meth c Z own n0 Bs En h cells slots pc' Ls S) : Go p l e R s m args below meth c Z own n0 Bs En h cells slots pc Ls (.int y :: .int x :: S) := by
  subst hp; exact Go.st (fun T X t q => XS.icmpNo X C.1 rfl (hb C.2.1 hd) rfl ((flt H).2.2.1) q) K
theorem Go.icmp_gt (C : Cx p meth c bytes ml ret) {pc1 pc2 : Nat} {x y : Int32} {o : Int} (hd : decode bytes pc = .ok (.if_icmp .gt o, 3)) (ho : 0 ≤ (pc : Int) + o) (hp : ((pc : Int) + o).toNat = pc1) (hp2 : pc + 3 = pc2) (K1 : y < x → Go p l e R s m args below meth c Z own n0 Bs En h cells slots pc1 Ls S) (K2 : ¬ y < x → Go p l e R s m args below meth c Z own n0 Bs En h cells slots pc2 Ls S) : Go p l e R s m args below meth c Z own n0 Bs En h cells slots pc Ls (.int y :: .int x :: S) := by
  by_cases H : y < x
  · exact Go.icmp_gt_t C hd H ho hp (K1 H)
  · exact Go.icmp_gt_f C hd H hp2 (K2 H)
theorem Go.if_gt_t (C : Cx p meth c bytes ml ret) {x : Int32} {o : Int} (hd : decode bytes pc = .ok (.ifCond .gt o, 3)) (H : 0 < x) (ho : 0 ≤ (pc : Int) + o) (hp : ((pc : Int) + o).toNat = pc') (K : Go p l e R s m args below meth c Z own n0 Bs En h cells slots pc' Ls S) : Go p l e R s m args below meth c Z own n0 Bs En h cells slots pc Ls (.int x :: S) := Go.st (fun T X t q => XS.ifYes X C.1 rfl rfl (hb C.2.1 hd) rfl ((if0 _ _).trans ((tlt H).2.2.1)) ho hp q) K
theorem Go.if_gt_f (C : Cx p meth c bytes ml ret) {x : Int32} {o : Int} (hd : decode bytes pc = .ok (.ifCond .gt o, 3)) (H : ¬ 0 < x) (hp : pc + 3 = pc') (K : Go p l e R s m args below meth c Z own n0 Bs En h cells slots pc' Ls S) : Go p l e R s m args below meth c Z own n0 Bs En h cells slots pc Ls (.int x :: S) := by
  subst hp; exact Go.st (fun T X t q => XS.ifNo X C.1 rfl (hb C.2.1 hd) rfl ((if0 _ _).trans ((flt H).2.2.1)) q) K
theorem Go.if_gt (C : Cx p meth c bytes ml ret) {pc1 pc2 : Nat} {x : Int32} {o : Int} (hd : decode bytes pc = .ok (.ifCond .gt o, 3)) (ho : 0 ≤ (pc : Int) + o) (hp : ((pc : Int) + o).toNat = pc1) (hp2 : pc + 3 = pc2) (K1 : 0 < x → Go p l e R s m args below meth c Z own n0 Bs En h cells slots pc1 Ls S) (K2 : ¬ 0 < x → Go p l e R s m args below meth c Z own n0 Bs En h cells slots pc2 Ls S) : Go p l e R s m args below meth c Z own n0 Bs En h cells slots pc Ls (.int x :: S) := by
  by_cases H : 0 < x
  · exact Go.if_gt_t C hd H ho hp (K1 H)
  · exact Go.if_gt_f C hd H hp2 (K2 H)
theorem Go.icmp_le_t (C : Cx p meth c bytes ml ret) {x y : Int32} {o : Int} (hd : decode bytes pc = .ok (.if_icmp .le o, 3)) (H : ¬ y < x) (ho : 0 ≤ (pc : Int) + o) (hp : ((pc : Int) + o).toNat = pc') (K : Go p l e R s m args below meth c Z own n0 Bs En h cells slots pc' Ls S) : Go p l e R s m args below meth c Z own n0 Bs En h cells slots pc Ls (.int y :: .int x :: S) := Go.st (fun T X t q => XS.icmpYes X C.1 rfl rfl (hb C.2.1 hd) rfl ((flt H).2.2.2) ho hp q) K
theorem Go.icmp_le_f (C : Cx p meth c bytes ml ret) {x y : Int32} {o : Int} (hd : decode bytes pc = .ok (.if_icmp .le o, 3)) (H : y < x) (hp : pc + 3 = pc') (K : Go p l e R s m args below meth c Z own n0 Bs En h cells slots pc' Ls S) : Go p l e R s m args below meth c Z own n0 Bs En h cells slots pc Ls (.int y :: .int x :: S) := by
  subst hp; exact Go.st (fun T X t q => XS.icmpNo X C.1 rfl (hb C.2.1 hd) rfl ((tlt H).2.2.2) q) K
theorem Go.icmp_le (C : Cx p meth c bytes ml ret) {pc1 pc2 : Nat} {x y : Int32} {o : Int} (hd : decode bytes pc = .ok (.if_icmp .le o, 3)) (ho : 0 ≤ (pc : Int) + o) (hp : ((pc : Int) + o).toNat = pc1) (hp2 : pc + 3 = pc2) (K1 : ¬ y < x → Go p l e R s m args below meth c Z own n0 Bs En h cells slots pc1 Ls S) (K2 : y < x → Go p l e R s m args below meth c Z own n0 Bs En h cells slots pc2 Ls S) : Go p l e R s m args below meth c Z own n0 Bs En h cells slots pc Ls (.int y :: .int x :: S) := by
  by_cases H : y < x
  · exact Go.icmp_le_f C hd H hp2 (K2 H)
  · exact Go.icmp_le_t C hd H ho hp (K1 H)
theorem Go.if_le_t (C : Cx p meth c bytes ml ret) {x : Int32} {o : Int} (hd : decode bytes pc = .ok (.ifCond .le o, 3)) (H : ¬ 0 < x) (ho : 0 ≤ (pc : Int) + o) (hp : ((pc : Int) + o).toNat = pc') (K : Go p l e R s m args below meth c Z own n0 Bs En h cells slots pc' Ls S) : Go p l e R s m args below meth c Z own n0 Bs En h cells slots pc Ls (.int x :: S) := Go.st (fun T X t q => XS.ifYes X C.1 rfl rfl (hb C.2.1 hd) rfl ((if0 _ _).trans ((flt H).2.2.2)) ho hp q) K
theorem Go.if_le_f (C : Cx p meth c bytes ml ret) {x : Int32} {o : Int} (hd : decode bytes pc = .ok (.ifCond .le o, 3)) (H : 0 < x) (hp : pc + 3 = pc') (K : Go p l e R s m args below meth c Z own n0 Bs En h cells slots pc' Ls S) : Go p l e R s m args below meth c Z own n0 Bs En h cells slots pc Ls (.int x :: S) := by
  subst hp; exact Go.st (fun T X t q => XS.ifNo X C.1 rfl (hb C.2.1 hd) rfl ((if0 _ _).trans ((tlt H).2.2.2)) q) K
theorem Go.if_le (C : Cx p meth c bytes ml ret) {pc1 pc2 : Nat} {x : Int32} {o : Int} (hd : decode bytes pc = .ok (.ifCond .le o, 3)) (ho : 0 ≤ (pc : Int) + o) (hp : ((pc : Int) + o).toNat = pc1) (hp2 : pc + 3 = pc2) (K1 : ¬ 0 < x → Go p l e R s m args below meth c Z own n0 Bs En h cells slots pc1 Ls S) (K2 : 0 < x → Go p l e R s m args below meth c Z own n0 Bs En h cells slots pc2 Ls S) : Go p l e R s m args below meth c Z own n0 Bs En h cells slots pc Ls (.int x :: S) := by
  by_cases H : 0 < x
  · exact Go.if_le_f C hd H hp2 (K2 H)
  · exact Go.if_le_t C hd H ho hp (K1 H)
theorem Go.ifnull_t (C : Cx p meth c bytes ml ret) {o : Int} (hd : decode bytes pc = .ok (.ifnull o, 3)) (ho : 0 ≤ (pc : Int) + o) (hp : ((pc : Int) + o).toNat = pc') (K : Go p l e R s m args below meth c Z own n0 Bs En h cells slots pc' Ls S) : Go p l e R s m args below meth c Z own n0 Bs En h cells slots pc Ls (.null :: S) := Go.st (fun T X t q => XS.ifnullYes X C.1 rfl rfl (hb C.2.1 hd) rfl ho hp q) K
theorem Go.ifnull_f (C : Cx p meth c bytes ml ret) {o : Int} {b : Addr} (hd : decode bytes pc = .ok (.ifnull o, 3))  (hp : pc + 3 = pc') (K : Go p l e R s m args below meth c Z own n0 Bs En h cells slots pc' Ls (S)) : Go p l e R s m args below meth c Z own n0 Bs En h cells slots pc Ls (.ref b :: S) := by
  subst hp; exact Go.st (fun T X t q => XS.ifnullNo X C.1 rfl (hb C.2.1 hd) rfl q) K
theorem Go.ifnonnull_t (C : Cx p meth c bytes ml ret) {o : Int} {b : Addr} (hd : decode bytes pc = .ok (.ifnonnull o, 3)) (ho : 0 ≤ (pc : Int) + o) (hp : ((pc : Int) + o).toNat = pc') (K : Go p l e R s m args below meth c Z own n0 Bs En h cells slots pc' Ls S) : Go p l e R s m args below meth c Z own n0 Bs En h cells slots pc Ls (.ref b :: S) := Go.st (fun T X t q => XS.ifnonnullYes X C.1 rfl rfl (hb C.2.1 hd) rfl ho hp q) K
theorem Go.ifnonnull_f (C : Cx p meth c bytes ml ret) {o : Int} (hd : decode bytes pc = .ok (.ifnonnull o, 3))  (hp : pc + 3 = pc') (K : Go p l e R s m args below meth c Z own n0 Bs En h cells slots pc' Ls (S)) : Go p l e R s m args below meth c Z own n0 Bs En h cells slots pc Ls (.null :: S) := by
  subst hp; exact Go.st (fun T X t q => XS.ifnonnullNo X C.1 rfl (hb C.2.1 hd) rfl q) K
theorem Go.acmp_eq_t (C : Cx p meth c bytes ml ret) {o : Int} {x y : Value} (hd : decode bytes pc = .ok (.if_acmp .eq o, 3)) (h1 : x.isRef = true) (h2 : y.isRef = true) (H : x = y) (ho : 0 ≤ (pc : Int) + o) (hp : ((pc : Int) + o).toNat = pc') (K : Go p l e R s m args below meth c Z own n0 Bs En h cells slots pc' Ls S) : Go p l e R s m args below meth c Z own n0 Bs En h cells slots pc Ls (y :: x :: S) := fun vm0 T locs q1 q2 q3 X q4 q5 => by
  obtain ⟨s₂, o', L, k1, k2⟩ := K vm0 T locs q1 q2 q3 X q4 q5
  exact ⟨s₂, o', L, acmp X C.1 rfl h1 h2 rfl (hb C.2.1 hd) rfl (decide_eq_true H) ho (by rw [← hp]; rfl) k1, k2⟩
theorem Go.acmp_eq_f (C : Cx p meth c bytes ml ret) {o : Int} {x y : Value} (hd : decode bytes pc = .ok (.if_acmp .eq o, 3)) (h1 : x.isRef = true) (h2 : y.isRef = true) (H : ¬ x = y) (ho : 0 ≤ (pc : Int) + o) (hp : pc + 3 = pc') (K : Go p l e R s m args below meth c Z own n0 Bs En h cells slots pc' Ls S) : Go p l e R s m args below meth c Z own n0 Bs En h cells slots pc Ls (y :: x :: S) := fun vm0 T locs q1 q2 q3 X q4 q5 => by
  obtain ⟨s₂, o', L, k1, k2⟩ := K vm0 T locs q1 q2 q3 X q4 q5
  exact ⟨s₂, o', L, acmp X C.1 rfl h1 h2 rfl (hb C.2.1 hd) rfl (decide_eq_false H) ho (by rw [← hp]; rfl) k1, k2⟩
theorem Go.acmp_ne_t (C : Cx p meth c bytes ml ret) {o : Int} {x y : Value} (hd : decode bytes pc = .ok (.if_acmp .ne o, 3)) (h1 : x.isRef = true) (h2 : y.isRef = true) (H : ¬ x = y) (ho : 0 ≤ (pc : Int) + o) (hp : ((pc : Int) + o).toNat = pc') (K : Go p l e R s m args below meth c Z own n0 Bs En h cells slots pc' Ls S) : Go p l e R s m args below meth c Z own n0 Bs En h cells slots pc Ls (y :: x :: S) := fun vm0 T locs q1 q2 q3 X q4 q5 => by
  obtain ⟨s₂, o', L, k1, k2⟩ := K vm0 T locs q1 q2 q3 X q4 q5
  exact ⟨s₂, o', L, acmp X C.1 rfl h1 h2 rfl (hb C.2.1 hd) rfl (decide_eq_false H) ho (by rw [← hp]; rfl) k1, k2⟩
theorem Go.acmp_ne_f (C : Cx p meth c bytes ml ret) {o : Int} {x y : Value} (hd : decode bytes pc = .ok (.if_acmp .ne o, 3)) (h1 : x.isRef = true) (h2 : y.isRef = true) (H : x = y) (ho : 0 ≤ (pc : Int) + o) (hp : pc + 3 = pc') (K : Go p l e R s m args below meth c Z own n0 Bs En h cells slots pc' Ls S) : Go p l e R s m args below meth c Z own n0 Bs En h cells slots pc Ls (y :: x :: S) := fun vm0 T locs q1 q2 q3 X q4 q5 => by
  obtain ⟨s₂, o', L, k1, k2⟩ := K vm0 T locs q1 q2 q3 X q4 q5
  exact ⟨s₂, o', L, acmp X C.1 rfl h1 h2 rfl (hb C.2.1 hd) rfl (decide_eq_true H) ho (by rw [← hp]; rfl) k1, k2⟩
theorem Go.same {Ls' : Array Slot} {S' : List Value} (f : ∀ (vm0 : Vm) (T : State) (locs : List Loc), Z.Warmed39 vm0 → vm0.findClass own = some m.cls → Stand p l e R (s.setVm vm0) m args below meth c T locs cells slots → T.heap = h → ∃ T', Stand p l e R (s.setVm vm0) m args below meth c T' locs cells slots ∧ T'.heap = h ∧ ∀ target, Steps p.tables e below (T'.setTop (mkF m pc' Ls' S')) target → Steps p.tables e below (T.setTop (mkF m pc Ls S)) target)
    (K : Go p l e R s m args below meth c Z own n0 Bs En h cells slots pc' Ls' S') : Go p l e R s m args below meth c Z own n0 Bs En h cells slots pc Ls S := fun vm0 T locs q1 q2 q3 X q4 q5 => by
  obtain ⟨T', X', e', st⟩ := f vm0 T locs q1 q2 X q5
  obtain ⟨s₂, o, L, h1, h2⟩ := K vm0 T' locs q1 q2 q3 X' q4 e'
  exact ⟨s₂, o, L, st _ h1, h2⟩
theorem Go.ldcInt (C : Cx p meth c bytes ml ret) {i : Nat} {v : Int32} (hd : decode bytes pc = .ok (.ldc i, 2)) (w : (Cond.constant own i v).before a0 Z = true) (hp : pc + 2 = pc') (K : Go p l e R s m args below meth c Z own n0 Bs En h cells slots pc' Ls (.int v :: S)) : Go p l e R s m args below meth c Z own n0 Bs En h cells slots pc Ls (S) := by
  subst hp; exact Go.same (fun vm0 T locs hZ hown X eT => by exact ⟨T, X, eT, X.ldcInt C.1 hown (mvT (s := s.setVm vm0) hZ w) (g := mkF m pc Ls (S)) rfl (hb C.2.1 hd)⟩) K
theorem Go.ldc2Long (C : Cx p meth c bytes ml ret) {i : Nat} {v : Int64} (hd : decode bytes pc = .ok (.ldc2_w i, 3)) (w : (Cond.constantLong own i v).before a0 Z = true) (hp : pc + 3 = pc') (K : Go p l e R s m args below meth c Z own n0 Bs En h cells slots pc' Ls (.long v :: S)) : Go p l e R s m args below meth c Z own n0 Bs En h cells slots pc Ls (S) := by
  subst hp; exact Go.same (fun vm0 T locs hZ hown X eT => by exact ⟨T, X, eT, X.ldc2Long C.1 hown (mvT (s := s.setVm vm0) hZ w) (g := mkF m pc Ls (S)) rfl (hb C.2.1 hd)⟩) K
theorem Go.ldc2Double (C : Cx p meth c bytes ml ret) {i : Nat} {v : UInt64} (hd : decode bytes pc = .ok (.ldc2_w i, 3)) (w : (Cond.constantDouble own i v).before a0 Z = true) (hp : pc + 3 = pc') (K : Go p l e R s m args below meth c Z own n0 Bs En h cells slots pc' Ls (.double v :: S)) : Go p l e R s m args below meth c Z own n0 Bs En h cells slots pc Ls (S) := by
  subst hp; exact Go.same (fun vm0 T locs hZ hown X eT => by exact ⟨T, X, eT, X.ldc2DoubleC C.1 hown (mvT (s := s.setVm vm0) hZ w) (g := mkF m pc Ls (S)) rfl (hb C.2.1 hd)⟩) K
theorem Go.arraylength (C : Cx p meth c bytes ml ret) {a : Addr} {cl : Cell} {ty : FieldType} {z : Int32} (hd : decode bytes pc = .ok (.arraylength, 1)) (A : Arr Z h a cl ty) (hz : cl.slots.size.toInt32 = z) (hp : pc + 1 = pc') (K : Go p l e R s m args below meth c Z own n0 Bs En h cells slots pc' Ls (.int z :: S)) : Go p l e R s m args below meth c Z own n0 Bs En h cells slots pc Ls (.ref a :: S) := by
  subst hp; exact Go.same (fun vm0 T locs hZ hown X eT => by subst hz; exact ⟨T, X, eT, fun t q => X.arraylength C.1 (by rw [eT]; exact A.1) (State.isArrayOf_alike (T := s.setVm vm0) hZ.alike A.2.1) (g := mkF m pc Ls (.ref a :: S)) rfl rfl (hb C.2.1 hd) t q⟩) K
theorem Go.iaload (C : Cx p meth c bytes ml ret) {a : Addr} {cl : Cell} {j : Int32} {v : Value} (hd : decode bytes pc = .ok (.iaload, 1)) (A : Arr Z h a cl .int) (hin : ¬ (j < 0 ∨ cl.slots.size ≤ j.toNatClampNeg)) (hv : cl.slots[j.toNatClampNeg]? = some v) (hp : pc + 1 = pc') (K : Go p l e R s m args below meth c Z own n0 Bs En h cells slots pc' Ls (v :: S)) : Go p l e R s m args below meth c Z own n0 Bs En h cells slots pc Ls (.int j :: .ref a :: S) := by
  subst hp; exact Go.same (fun vm0 T locs hZ hown X eT => by exact ⟨T, X, eT, fun t q => X.iaload C.1 (by rw [eT]; exact A.1) (State.isArrayOf_alike (T := s.setVm vm0) hZ.alike A.2.1) A.2.2 hin hv (g := mkF m pc Ls (.int j :: .ref a :: S)) rfl rfl (hb C.2.1 hd) t q⟩) K
theorem Go.laload (C : Cx p meth c bytes ml ret) {a : Addr} {cl : Cell} {j : Int32} {v : Value} (hd : decode bytes pc = .ok (.laload, 1)) (A : Arr Z h a cl .long) (hin : ¬ (j < 0 ∨ cl.slots.size ≤ j.toNatClampNeg)) (hv : cl.slots[j.toNatClampNeg]? = some v) (hp : pc + 1 = pc') (K : Go p l e R s m args below meth c Z own n0 Bs En h cells slots pc' Ls (v :: S)) : Go p l e R s m args below meth c Z own n0 Bs En h cells slots pc Ls (.int j :: .ref a :: S) := by
  subst hp; exact Go.same (fun vm0 T locs hZ hown X eT => by exact ⟨T, X, eT, fun t q => X.laload C.1 (by rw [eT]; exact A.1) (State.isArrayOf_alike (T := s.setVm vm0) hZ.alike A.2.1) A.2.2 hin hv (g := mkF m pc Ls (.int j :: .ref a :: S)) rfl rfl (hb C.2.1 hd) t q⟩) K
theorem Go.caload (C : Cx p meth c bytes ml ret) {a : Addr} {cl : Cell} {j : Int32} {v : Value} (hd : decode bytes pc = .ok (.caload, 1)) (A : Arr Z h a cl .char) (hin : ¬ (j < 0 ∨ cl.slots.size ≤ j.toNatClampNeg)) (hv : cl.slots[j.toNatClampNeg]? = some v) (hp : pc + 1 = pc') (K : Go p l e R s m args below meth c Z own n0 Bs En h cells slots pc' Ls (v :: S)) : Go p l e R s m args below meth c Z own n0 Bs En h cells slots pc Ls (.int j :: .ref a :: S) := by
  subst hp; exact Go.same (fun vm0 T locs hZ hown X eT => by exact ⟨T, X, eT, fun t q => X.caload C.1 (by rw [eT]; exact A.1) (State.isArrayOf_alike (T := s.setVm vm0) hZ.alike A.2.1) A.2.2 hin hv (g := mkF m pc Ls (.int j :: .ref a :: S)) rfl rfl (hb C.2.1 hd) t q⟩) K
theorem Go.baload (C : Cx p meth c bytes ml ret) {a : Addr} {cl : Cell} {j : Int32} {v : Value} (hd : decode bytes pc = .ok (.baload, 1)) (A : Arr Z h a cl .byte) (hin : ¬ (j < 0 ∨ cl.slots.size ≤ j.toNatClampNeg)) (hv : cl.slots[j.toNatClampNeg]? = some v) (hp : pc + 1 = pc') (K : Go p l e R s m args below meth c Z own n0 Bs En h cells slots pc' Ls (v :: S)) : Go p l e R s m args below meth c Z own n0 Bs En h cells slots pc Ls (.int j :: .ref a :: S) := by
  subst hp; exact Go.same (fun vm0 T locs hZ hown X eT => by exact ⟨T, X, eT, fun t q => X.baloadBytes C.1 (by rw [eT]; exact A.1) (State.isArrayOf_alike (T := s.setVm vm0) hZ.alike A.2.1) A.2.2 hin hv (g := mkF m pc Ls (.int j :: .ref a :: S)) rfl rfl (hb C.2.1 hd) t q⟩) K
theorem Go.daload (C : Cx p meth c bytes ml ret) {a : Addr} {cl : Cell} {j : Int32} {v : Value} (hd : decode bytes pc = .ok (.daload, 1)) (A : Arr Z h a cl .double) (hin : ¬ (j < 0 ∨ cl.slots.size ≤ j.toNatClampNeg)) (hv : cl.slots[j.toNatClampNeg]? = some v) (hp : pc + 1 = pc') (K : Go p l e R s m args below meth c Z own n0 Bs En h cells slots pc' Ls (v :: S)) : Go p l e R s m args below meth c Z own n0 Bs En h cells slots pc Ls (.int j :: .ref a :: S) := by
  subst hp; exact Go.same (fun vm0 T locs hZ hown X eT => by exact ⟨T, X, eT, fun t q => X.daload C.1 (by rw [eT]; exact A.1) (State.isArrayOf_alike (T := s.setVm vm0) hZ.alike A.2.1) A.2.2 hin hv (g := mkF m pc Ls (.int j :: .ref a :: S)) rfl rfl (hb C.2.1 hd) t q⟩) K
theorem Go.aaload (C : Cx p meth c bytes ml ret) {a : Addr} {cl : Cell} {j : Int32} {v : Value} {ty : FieldType} (hd : decode bytes pc = .ok (.aaload, 1)) (A : Arr Z h a cl ty) (hty : ty.isReference = true) (hin : ¬ (j < 0 ∨ cl.slots.size ≤ j.toNatClampNeg)) (hv : cl.slots[j.toNatClampNeg]? = some v) (hp : pc + 1 = pc') (K : Go p l e R s m args below meth c Z own n0 Bs En h cells slots pc' Ls (v :: S)) : Go p l e R s m args below meth c Z own n0 Bs En h cells slots pc Ls (.int j :: .ref a :: S) := by
  subst hp; exact Go.same (fun vm0 T locs hZ hown X eT => by exact ⟨T, X, eT, fun t q => X.aaload C.1 (by rw [eT]; exact A.1) (State.isArrayOf_alike (T := s.setVm vm0) hZ.alike A.2.1) hty A.2.2 hin hv (g := mkF m pc Ls (.int j :: .ref a :: S)) rfl rfl (hb C.2.1 hd) t q⟩) K
theorem Go.castNull (C : Cx p meth c bytes ml ret) {i : Nat} (hd : decode bytes pc = .ok (.checkcast i, 3))  (hp : pc + 3 = pc') (K : Go p l e R s m args below meth c Z own n0 Bs En h cells slots pc' Ls (.null :: S)) : Go p l e R s m args below meth c Z own n0 Bs En h cells slots pc Ls (.null :: S) := by
  subst hp; exact Go.same (fun vm0 T locs hZ hown X eT => by exact ⟨T, X, eT, X.checkcastNull C.1 (g := mkF m pc Ls (.null :: S)) rfl rfl (hb C.2.1 hd)⟩) K
theorem Go.instNull (C : Cx p meth c bytes ml ret) {i : Nat} (hd : decode bytes pc = .ok (.instanceof i, 3))  (hp : pc + 3 = pc') (K : Go p l e R s m args below meth c Z own n0 Bs En h cells slots pc' Ls (.int 0 :: S)) : Go p l e R s m args below meth c Z own n0 Bs En h cells slots pc Ls (.null :: S) := by
  subst hp; exact Go.same (fun vm0 T locs hZ hown X eT => by exact ⟨T, X, eT, X.instanceofNull C.1 (g := mkF m pc Ls (.null :: S)) rfl rfl (hb C.2.1 hd)⟩) K
theorem Go.getF (C : Cx p meth c bytes ml ret) {i : Nat} {a : Addr} {R0 O n d : String} {v : Value} (hd : decode bytes pc = .ok (.getfield i, 3)) (w : (Cond.fieldLink own i R0 n d).before a0 Z = true) (via : Via Z R0 O n d) (F : Fld Z h a O n d v) (hp : pc + 3 = pc') (K : Go p l e R s m args below meth c Z own n0 Bs En h cells slots pc' Ls (v :: S)) : Go p l e R s m args below meth c Z own n0 Bs En h cells slots pc Ls (.ref a :: S) := by
  subst hp; exact Go.same (fun vm0 T locs hZ hown X eT => by exact getF (host := "") X C.1 hZ hown (Or.inl w) via eT F (g := mkF m pc Ls (.ref a :: S)) rfl rfl (hb C.2.1 hd)) K
theorem Go.getS (C : Cx p meth c bytes ml ret) {i : Nat} {R0 O n d : String} {v : Value} (hd : decode bytes pc = .ok (.getstatic i, 3)) (w : (Cond.fieldLink own i R0 n d).before a0 Z = true) (via : Via Z R0 O n d) (F : Sta Z h O n d v) (hp : pc + 3 = pc') (K : Go p l e R s m args below meth c Z own n0 Bs En h cells slots pc' Ls (v :: S)) : Go p l e R s m args below meth c Z own n0 Bs En h cells slots pc Ls (S) := by
  subst hp; exact Go.same (fun vm0 T locs hZ hown X eT => by exact getS2 (host := "") X C.1 hZ hown (Or.inl w) via eT F (g := mkF m pc Ls (S)) rfl (hb C.2.1 hd)) K
theorem Go.castY (C : Cx p meth c bytes ml ret) {i : Nat} {a : Addr} {K0 : String} (hd : decode bytes pc = .ok (.checkcast i, 3)) (w : (Cond.classLink own i K0).before a0 Z = true) (F : Ins Z h a K0 true) (hp : pc + 3 = pc') (K : Go p l e R s m args below meth c Z own n0 Bs En h cells slots pc' Ls (.ref a :: S)) : Go p l e R s m args below meth c Z own n0 Bs En h cells slots pc Ls (.ref a :: S) := by
  subst hp; exact Go.same (fun vm0 T locs hZ hown X eT => by exact castY X C.1 hZ hown w eT F (g := mkF m pc Ls (.ref a :: S)) rfl rfl (hb C.2.1 hd)) K
theorem Go.instY (C : Cx p meth c bytes ml ret) {i : Nat} {a : Addr} {K0 : String} (hd : decode bytes pc = .ok (.instanceof i, 3)) (w : (Cond.classLink own i K0).before a0 Z = true) (F : Ins Z h a K0 true) (hp : pc + 3 = pc') (K : Go p l e R s m args below meth c Z own n0 Bs En h cells slots pc' Ls (.int 1 :: S)) : Go p l e R s m args below meth c Z own n0 Bs En h cells slots pc Ls (.ref a :: S) := by
  subst hp; exact Go.same (fun vm0 T locs hZ hown X eT => by exact instY X C.1 hZ hown w eT F (g := mkF m pc Ls (.ref a :: S)) rfl rfl (hb C.2.1 hd)) K
end Rules
end Jvm.Own
namespace Jvm.Own
open Jvm Jvm.ClassFile Sem Op Lib Jvm.Free Jvm.Stand Jvm.LawKit Jvm.RoadKit Bundle
section Heaps
variable {p : Program} {l : Launch} {e : Env} {R : Room} {s : State} {m : MethodId} {args : Array Value} {below : List Frame} {meth : Method} {c : Code} {Z : State} {own : String} {n0 : Nat} {Bs : Vm → Heap → Prop} {En : Outcome → State → List Loc → Prop} {h : Heap} {cells slots pc pc' : Nat} {Ls : Array Slot} {S : List Value} {bytes : ByteArray} {ml : Nat} {ret : Option FieldType} {a0 : Array Value}
/-- Bs goes along with a heap that only grew -/
def BsE (Bs : Vm → Heap → Prop) : Prop := ∀ vm h h', Ext h h' → Bs vm h → Bs vm h'
/-- the base of a walk that interns nothing -/
def Bn (s : State) : Vm → Heap → Prop := fun vm _ => vm = s.vm
theorem bnE : ∀ vm h', Ext h h' → h.size < h'.size → Bn s vm h → Bn s vm h' := fun _ _ _ _ q => q
theorem Go.newO (C : Cx p meth c bytes ml ret) {Bs' : Vm → Heap → Prop} (hE : ∀ vm h', Ext h h' → h.size < h'.size → Bs vm h → Bs' vm h') {i n : Nat} {C0 : String} (hd : decode bytes pc = .ok (.new i, 3)) (w1 : (Cond.classLink own i C0).before a0 Z = true) (w2 : (Cond.instantiable C0 n).before a0 Z = true) (w3 : (Cond.initialized C0).before a0 Z = true) (hc : cells + 1 ≤ R.cells) (hl : slots + n ≤ R.slots) (hp : pc + 3 = pc')
    (K : ∀ h', Ext h h' → Exa Z h' h.size C0 → (∀ {O nm d : String} {ty : FieldType}, Laid Z a0 C0 O nm d → parseFieldDescriptor d = some ty → Fld Z h' h.size O nm d (defaultValue ty)) → Unt h' h.size → Go p l e R s m args below meth c Z own n0 Bs' En h' (cells + 1) (slots + n) pc' Ls (.ref h.size :: S)) :
    Go p l e R s m args below meth c Z own n0 Bs En h cells slots pc Ls S := fun vm0 T locs hZ hown hB X hF eT => by
  subst hp
  obtain ⟨T', h', X', e', E, A, D, N, st⟩ := Jvm.RoadKit.newO X C.1 hZ hown w1 w2 w3 eT (g := mkF m pc Ls S) rfl (hb C.2.1 hd) hc hl
  obtain ⟨s₂, o, L, k1, k2⟩ := K h' E A D N vm0 T' locs hZ hown (hE _ _ E A.lt hB) X' hF e'
  exact ⟨s₂, o, L, st _ k1, k2⟩
theorem Go.newP (C : Cx p meth c bytes ml ret) {Bs' : Vm → Heap → Prop} (hE : ∀ vm h', Ext h h' → h.size < h'.size → Bs vm h → Bs' vm h') {aty : ArrayType} {n : Int32} (hd : decode bytes pc = .ok (.newarray aty, 2)) (w : (Cond.arrayClass (newarray.typeOf aty)).before a0 Z = true) (hn : ¬ n < 0) {cap : Nat} (hcap : n.toNatClampNeg ≤ cap) (hb8 : cap * 8 ≤ 536870912) (hc : cells + 1 ≤ R.cells) (hl : slots + cap ≤ R.slots) (hp : pc + 2 = pc')
    (K : ∀ h' cA, Ext h h' → Arr Z h' h.size (newA cA (newarray.typeOf aty) n) (newarray.typeOf aty) → Go p l e R s m args below meth c Z own n0 Bs' En h' (cells + 1) (slots + cap) pc' Ls (.ref h.size :: S)) :
    Go p l e R s m args below meth c Z own n0 Bs En h cells slots pc Ls (.int n :: S) := fun vm0 T locs hZ hown hB X hF eT => by
  subst hp
  obtain ⟨T', h', cA, X', e', E, A, st⟩ := Jvm.RoadKit.newP X C.1 hZ w eT (g := mkF m pc Ls (.int n :: S)) rfl (hb C.2.1 hd) rfl hn hcap hb8 hc hl
  obtain ⟨s₂, o, L, k1, k2⟩ := K h' cA E A vm0 T' locs hZ hown (hE _ _ E A.lt hB) X' hF e'
  exact ⟨s₂, o, L, st _ k1, k2⟩
theorem Go.castore (C : Cx p meth c bytes ml ret) {a : Addr} {cl : Cell} {j x : Int32} (hd : decode bytes pc = .ok (.castore, 1)) (A : Arr Z h a cl .char) (hj : ¬ (j < 0 ∨ cl.slots.size ≤ j.toNatClampNeg)) (hn : n0 ≤ a) (hB : ∀ vm h', Wr h h' a j.toNatClampNeg (.int (nar .char x)) → Bs vm h → Bs vm h') (hp : pc + 1 = pc')
    (K : ∀ h', Wr h h' a j.toNatClampNeg (.int (nar .char x)) → Go p l e R s m args below meth c Z own n0 Bs En h' cells slots pc' Ls S) :
    Go p l e R s m args below meth c Z own n0 Bs En h cells slots pc Ls (.int x :: .int j :: .ref a :: S) := fun vm0 T locs hZ hown hBs X hF eT => by
  subst hp
  obtain ⟨T', h', X', e', W, st⟩ := stC X C.1 hZ eT A hj (g := mkF m pc Ls (.int x :: .int j :: .ref a :: S)) rfl rfl (hb C.2.1 hd)
  obtain ⟨s₂, o, L, k1, k2⟩ := K h' W vm0 T' _ hZ hown (hB _ _ W hBs) X' (Fr.snoc X' hF hn) e'
  exact ⟨s₂, o, L, st _ k1, k2⟩
theorem Go.bastore (C : Cx p meth c bytes ml ret) {a : Addr} {cl : Cell} {j x : Int32} (hd : decode bytes pc = .ok (.bastore, 1)) (A : Arr Z h a cl .byte) (hj : ¬ (j < 0 ∨ cl.slots.size ≤ j.toNatClampNeg)) (hn : n0 ≤ a) (hB : ∀ vm h', Wr h h' a j.toNatClampNeg (.int (nar .byte x)) → Bs vm h → Bs vm h') (hp : pc + 1 = pc')
    (K : ∀ h', Wr h h' a j.toNatClampNeg (.int (nar .byte x)) → Go p l e R s m args below meth c Z own n0 Bs En h' cells slots pc' Ls S) :
    Go p l e R s m args below meth c Z own n0 Bs En h cells slots pc Ls (.int x :: .int j :: .ref a :: S) := fun vm0 T locs hZ hown hBs X hF eT => by
  subst hp
  obtain ⟨T', h', X', e', W, st⟩ := stB X C.1 hZ eT A hj (g := mkF m pc Ls (.int x :: .int j :: .ref a :: S)) rfl rfl (hb C.2.1 hd)
  obtain ⟨s₂, o, L, k1, k2⟩ := K h' W vm0 T' _ hZ hown (hB _ _ W hBs) X' (Fr.snoc X' hF hn) e'
  exact ⟨s₂, o, L, st _ k1, k2⟩
theorem Go.putF (C : Cx p meth c bytes ml ret) {i kk : Nat} {R0 O n d C0 : String} {ty : FieldType} {a : Addr} {v old : Value} (hd : decode bytes pc = .ok (.putfield i, 3)) (w : (Cond.fieldLink own i R0 n d).before a0 Z = true) (via : Via Z R0 O n d) (F : Fld Z h a O n d old) (E : Exa Z h a C0)
    (L : (Cond.lays C0 O n d).before a0 Z = true ∨ ((Cond.laysFinal C0 O n d).before a0 Z = true ∧ own = O ∧ meth.name = "<init>")) (wi : (Cond.instantiable C0 kk).before a0 Z = true) (hty : parseFieldDescriptor d = some ty) (hnv : narrow ty v = v) (hf : fits ty v = true) (hn : n0 ≤ a) (hB : ∀ vm h', Wr h h' a (Jvm.RoadKit.slotOf Z O n d) v → Bs vm h → Bs vm h') (hp : pc + 3 = pc')
    (K : ∀ h', Wr h h' a (Jvm.RoadKit.slotOf Z O n d) v → Go p l e R s m args below meth c Z own n0 Bs En h' cells slots pc' Ls S) :
    Go p l e R s m args below meth c Z own n0 Bs En h cells slots pc Ls (v :: .ref a :: S) := fun vm0 T locs hZ hown hBs X hF eT => by
  subst hp
  obtain ⟨T', h', X', e', W, st⟩ := Jvm.RoadKit.putF (host := "") X C.1 hZ hown (Or.inl w) via eT F E L wi hty hnv hf (g := mkF m pc Ls (v :: .ref a :: S)) rfl rfl (hb C.2.1 hd)
  obtain ⟨s₂, o, L, k1, k2⟩ := K h' W vm0 T' _ hZ hown (hB _ _ W hBs) X' (Fr.snoc X' hF hn) e'
  exact ⟨s₂, o, L, st _ k1, k2⟩
theorem Go.initO (C : Cx p meth c bytes ml ret) {i : Nat} {a : Addr} (hd : decode bytes pc = .ok (.invokespecial i, 3)) (w1 : (Cond.methodLink own i Lib.objectInit).before a0 Z = true) (w2 : (Cond.instanceMethod Lib.objectInit).before a0 Z = true) (w3 : (Cond.code Lib.objectInit ⟨#[0xb1]⟩ 1 none).before a0 Z = true)
    (hsz : Ls.size = ml) (hfr : 1 ≤ R.frames) (hlo : (S.map fun v => v.category).sum + 12 ≤ R.locals) (hp : pc + 3 = pc') (K : Go p l e R s m args below meth c Z own n0 Bs En h cells slots pc' Ls S) :
    Go p l e R s m args below meth c Z own n0 Bs En h cells slots pc Ls (.ref a :: S) := by
  subst hp
  exact Go.same (fun vm0 T locs hZ hown X eT => Jvm.RoadKit.initO X C.1 hZ hown w1 w2 w3 eT (g := mkF m pc Ls (.ref a :: S)) rfl (by rw [C.2.2.1]; exact hsz) rfl (hb C.2.1 hd) hfr (W := (S.map fun v => v.category).sum) (by show 2 * 0 + _ ≤ _; omega) hlo) K
/-! ### calls: by whatever pays them -/
/-- a payment in the road kit's own form, whatever the tables that the walk has come to -/
def Pay (l : Launch) (R : Room) (p : Program) (e : Env) (below : List Frame) (s : State) (args : Array Value) (Z : State) (y : MethodName) (ln W : Nat) (as' : Array Value) (h : Heap) (kc ks : Nat) (Q : Option Value → Heap → List Loc → Prop) : Prop :=
  ∀ vm0 : Vm, Z.Warmed39 vm0 → Back l R p e below (s.setVm vm0) args y ln W (fun A a => a = as' ∧ A.U.heap = h ∧ A.cells + kc ≤ R.cells ∧ A.slots + ks ≤ R.slots) (fun A _ v B => ∃ L, Q v B.U.heap L ∧ B.locs = A.locs ++ L ∧ B.cells = A.cells + kc ∧ B.slots = A.slots + ks)
/-- a contract of a body: from the heap h0, with the arguments as', it returns, Q holds, and nothing below n0 was written -/
def Ct (l : Launch) (Z : State) (y : MethodName) (yb : ByteArray) (yl : Nat) (yr : Option FieldType) (ws : List Jvm.Cond) (rm : Room) (as' : Array Value) (h0 : Heap) (n0 : Nat) (Q : Option Value → Heap → Prop) : Prop :=
  MetFree l y (head1 (Cond.code y yb yl yr :: ws) rm) (fun a U => a = as' ∧ Z.Warmed39 U.vm ∧ U.heap = h0) (fun _ _ _ _ _ => True) (fun _ U o U' => ∃ v L, o = .returned v ∧ (Q v U'.heap ∧ Fr n0 L) ∧ FrameEnd U o U' L rm.cells rm.slots)
/-- how a walk of a contract ends -/
def EnN (s : State) (R : Room) (n0 : Nat) (Q : Option Value → Heap → Prop) : Outcome → State → List Loc → Prop := fun o s₂ L => ∃ v, o = .returned v ∧ (Q v s₂.heap ∧ Fr n0 L) ∧ FrameEnd s o s₂ L R.cells R.slots
theorem Ct.of {y : MethodName} {yb : ByteArray} {yl : Nat} {yr : Option FieldType} {ws : List Jvm.Cond} {rm : Room} {as' : Array Value} {h0 : Heap} {Q : Option Value → Heap → Prop} {L0 : Array Slot} (hp : plainFor y = true) (hef : ∀ m, entryFrame m as' yl = mkF m 0 L0 [])
    (body : ∀ (p : Program) (e : Env) (s : State) (m : MethodId) (below : List Frame) (meth : Method) (c : Code), Cx p meth c yb yl yr → meth.name = y.name → Go p l e rm s m as' below meth c Z y.cls n0 (Bn s) (EnN s rm n0 Q) h0 0 0 0 L0 []) : Ct l Z y yb yl yr ws rm as' h0 n0 Q := by
  refine MetFree.of_bodySF hp hisR ?_
  intro p e s m args below meth c s₁ Bd hml0 hP hK
  obtain ⟨rfl, hZ, hh⟩ := hP
  have X0 := Stand.of_body Bd
  obtain ⟨s₂, o, L, h1, h2, h3, v, h4⟩ := body p e s m below meth c ⟨Bd.exec, Bd.bytes, hml0, Bd.returns, Bd.notSynchronized⟩ (name_of_methodNamed Bd.named Bd.method).1 s.vm s₁ [] hZ (findClass_of_methodNamed Bd.named) rfl X0 (Fr.nil n0) (by rw [← hh, Bd.state]; rfl)
  exact ⟨s₂, o, castTop (hef m) h1, h2, h3, v, L, h4⟩
theorem Ct.pay {y : MethodName} {yb : ByteArray} {yl : Nat} {yr : Option FieldType} {rm : Room} {as' : Array Value} {ln W : Nat} {Q : Option Value → Heap → Prop} (hM : Ct l Z y yb yl yr [] rm as' h n0 Q) (w4 : (Cond.code y yb yl yr).before a0 Z = true) (w3 : (Cond.initialized y.cls).before a0 Z = true) (hfr : rm.frames + 1 ≤ R.frames) (hlo : W + (yl + 11) + rm.locals ≤ R.locals) :
    Pay l R p e below s args Z y ln W as' h rm.cells rm.slots (fun v h' L => Q v h' ∧ Fr n0 L) := fun vm0 hZ =>
  backOf (s := s.setVm vm0) (Q := fun v h' L => Q v h' ∧ Fr n0 L) hM hZ w4 w3 hfr hlo
theorem Pay.mono {y : MethodName} {ln W kc ks : Nat} {as' : Array Value} {Q Q' : Option Value → Heap → List Loc → Prop} (hP : Pay l R p e below s args Z y ln W as' h kc ks Q) (q : ∀ v h' L, Q v h' L → Q' v h' L) : Pay l R p e below s args Z y ln W as' h kc ks Q' := fun vm0 hZ =>
  Back.mono (hP vm0 hZ) (fun _ _ r => r) (fun A a v B _ ⟨L, r1, r2⟩ => ⟨L, q _ _ _ r1, r2⟩)
/-- more cells and slots booked than made -/
theorem Go.more {cells' slots' : Nat} (hc : cells ≤ cells') (hs : slots ≤ slots') (K : Go p l e R s m args below meth c Z own n0 Bs En h cells' slots' pc Ls S) : Go p l e R s m args below meth c Z own n0 Bs En h cells slots pc Ls S := fun vm0 T locs hZ hown hB X hF eT => K vm0 T locs hZ hown hB (X.more hc hs) hF eT
theorem Go.callS (C : Cx p meth c bytes ml ret) {i : Nat} {y : MethodName} {yb : ByteArray} {yl : Nat} {yr : Option FieldType} {argsL rest : List Value} {W kc ks : Nat} {Q : Option Value → Heap → List Loc → Prop}
    (hd : decode bytes pc = .ok (.invokestatic i, 3)) (w1 : (Cond.methodLink own i y).before a0 Z = true) (w2 : (Cond.static y).before a0 Z = true) (w3 : (Cond.initialized y.cls).before a0 Z = true) (w4 : (Cond.code y yb yl yr).before a0 Z = true) (hy : y.cls ≠ "java/lang/invoke/MethodHandle" ∧ y.cls ≠ "java/lang/invoke/VarHandle")
    (hS : S = argsL.reverse ++ rest) (hlen : ∀ sig, parseMethodDescriptor y.desc = some sig → argsL.length = sig.parameters.length) (hsz : Ls.size = ml) (hW : (rest.map fun v => v.category).sum ≤ W) (hK : Pay l R p e below s args Z y 3 W argsL.toArray h kc ks Q)
    (hQ : ∀ v h' L, Q v h' L → Fr n0 L) (hce : cells + kc ≤ R.cells) (hsl : slots + ks ≤ R.slots) {Bs' : Vm → Heap → Prop} (hB : ∀ vm v h' L, Q v h' L → Bs vm h → Bs' vm h') (hp : pc + 3 = pc')
    (K : ∀ v h' L, Q v h' L → Go p l e R s m args below meth c Z own n0 Bs' En h' (cells + kc) (slots + ks) pc' Ls (v.toList ++ rest)) :
    Go p l e R s m args below meth c Z own n0 Bs En h cells slots pc Ls S := fun vm0 T locs hZ hown hBs X hF eT => by
  subst hp hS
  obtain ⟨v, vm1, ⟨T', L', k', n'⟩, -, X', ⟨Lc, hq, l1, y1, z1⟩, st⟩ := Jvm.LawKit.callS X C.1 (y := y) hown (mvT (s := s.setVm vm0) hZ w1) (mvT (s := s.setVm vm0) hZ w2) (mvT (s := s.setVm vm0) hZ w3) (mvT (s := s.setVm vm0) hZ w4) hy (hK vm0 hZ) (g := mkF m pc Ls (argsL.reverse ++ rest)) rfl (by rw [C.2.2.1]; exact hsz) (argsL := argsL) (rest := rest) hlen rfl (by show 2 * 0 + _ ≤ _; omega) (hb C.2.1 hd) (fun _ _ => ⟨rfl, eT, hce, hsl⟩)
  dsimp only [Pt.U, Pt.locs, Pt.cells, Pt.slots] at X' l1 y1 z1 st hq
  subst l1 y1 z1
  obtain ⟨s₂, o, L, k1, k2⟩ := K v T'.heap Lc hq vm0 T' _ hZ hown (hB _ _ _ _ hq hBs) X' (Fr.app hF (hQ _ _ _ hq)) rfl
  exact ⟨s₂, o, L, st _ k1, k2⟩
theorem Go.callV (C : Cx p meth c bytes ml ret) {i : Nat} {C0 : String} {b : Addr} {y z : MethodName} {argsL rest : List Value} {W kc ks : Nat} {Q : Option Value → Heap → List Loc → Prop}
    (hd : decode bytes pc = .ok (.invokevirtual i, 3)) (w1 : (Cond.methodLink own i y).before a0 Z = true) (w2 : (Cond.declares y).before a0 Z = true) (w3 : (Cond.selects C0 y z).before a0 Z = true) (w4 : (Cond.instanceMethod z).before a0 Z = true) (hnf : ∀ st : State, Z.Warmed39 st.vm → NotFace st y) (hy : y.cls ≠ "java/lang/invoke/MethodHandle" ∧ y.cls ≠ "java/lang/invoke/VarHandle") (E : Exa Z h b C0)
    (hS : S = argsL.reverse ++ .ref b :: rest) (hlen : ∀ sig, parseMethodDescriptor y.desc = some sig → argsL.length = sig.parameters.length) (hsz : Ls.size = ml) (hW : (rest.map fun v => v.category).sum ≤ W) (hK : Pay l R p e below s args Z z 3 W (.ref b :: argsL).toArray h kc ks Q)
    (hQ : ∀ v h' L, Q v h' L → Fr n0 L) (hce : cells + kc ≤ R.cells) (hsl : slots + ks ≤ R.slots) {Bs' : Vm → Heap → Prop} (hB : ∀ vm v h' L, Q v h' L → Bs vm h → Bs' vm h') (hp : pc + 3 = pc')
    (K : ∀ v h' L, Q v h' L → Go p l e R s m args below meth c Z own n0 Bs' En h' (cells + kc) (slots + ks) pc' Ls (v.toList ++ rest)) :
    Go p l e R s m args below meth c Z own n0 Bs En h cells slots pc Ls S := fun vm0 T locs hZ hown hBs X hF eT => by
  subst hp hS
  obtain ⟨cq, kq, qa, qb, qc⟩ := isOf (s := s.setVm vm0) hZ eT E
  obtain ⟨v, vm1, ⟨T', L', k', n'⟩, -, X', ⟨Lc, hq, l1, y1, z1⟩, st⟩ := X.virtualBack C.1 (y := y) (z := z) hown (mvT (s := s.setVm vm0) hZ w1) (mvT (s := s.setVm vm0) hZ w2) (hnf (s.setVm vm0) hZ) (mvT (s := s.setVm vm0) hZ w3) (mvT (s := s.setVm vm0) hZ w4) hy (hK vm0 hZ) qa qc (g := mkF m pc Ls (argsL.reverse ++ .ref b :: rest)) rfl (by rw [C.2.2.1]; exact hsz) (Steps.refl _) (argsL := argsL) (rest := rest) hlen rfl (by show 2 * 0 + _ ≤ _; omega) (hb C.2.1 hd) (fun _ _ => ⟨rfl, eT, hce, hsl⟩)
  dsimp only [Pt.U, Pt.locs, Pt.cells, Pt.slots] at X' l1 y1 z1 st hq
  subst l1 y1 z1
  obtain ⟨s₂, o, L, k1, k2⟩ := K v T'.heap Lc hq vm0 T' _ hZ hown (hB _ _ _ _ hq hBs) X' (Fr.app hF (hQ _ _ _ hq)) rfl
  exact ⟨s₂, o, L, st.trans k1, k2⟩
theorem Go.callN (C : Cx p meth c bytes ml ret) {i : Nat} {a : Addr} {y : MethodName} {yb : ByteArray} {yl : Nat} {argsL rest : List Value} {W kc ks : Nat} {Q : Option Value → Heap → List Loc → Prop}
    (hd : decode bytes pc = .ok (.invokespecial i, 3)) (hy1 : y.name = "<init>") (w1 : (Cond.methodLink own i y).before a0 Z = true) (w2 : (Cond.instanceMethod y).before a0 Z = true) (w3 : (Cond.code y yb yl none).before a0 Z = true) (hy : y.cls ≠ "java/lang/invoke/MethodHandle" ∧ y.cls ≠ "java/lang/invoke/VarHandle")
    (hS : S = argsL.reverse ++ .ref a :: rest) (hlen : ∀ sig, parseMethodDescriptor y.desc = some sig → argsL.length = sig.parameters.length) (hsz : Ls.size = ml) (hW : (rest.map fun v => v.category).sum ≤ W) (hK : Pay l R p e below s args Z y 3 W (.ref a :: argsL).toArray h kc ks Q)
    (hQ : ∀ v h' L, Q v h' L → Fr n0 L) (hce : cells + kc ≤ R.cells) (hsl : slots + ks ≤ R.slots) {Bs' : Vm → Heap → Prop} (hB : ∀ vm v h' L, Q v h' L → Bs vm h → Bs' vm h') (hp : pc + 3 = pc')
    (K : ∀ v h' L, Q v h' L → Go p l e R s m args below meth c Z own n0 Bs' En h' (cells + kc) (slots + ks) pc' Ls (v.toList ++ rest)) :
    Go p l e R s m args below meth c Z own n0 Bs En h cells slots pc Ls S := fun vm0 T locs hZ hown hBs X hF eT => by
  subst hp hS
  obtain ⟨v, vm1, ⟨T', L', k', n'⟩, -, X', ⟨Lc, hq, l1, y1, z1⟩, st⟩ := X.specialBack C.1 (y := y) hy1 hown (mvT (s := s.setVm vm0) hZ w1) (mvT (s := s.setVm vm0) hZ w2) (mvT (s := s.setVm vm0) hZ w3) hy (hK vm0 hZ) (g := mkF m pc Ls (argsL.reverse ++ .ref a :: rest)) rfl (by rw [C.2.2.1]; exact hsz) (Steps.refl _) (a := a) (argsL := argsL) (rest := rest) hlen rfl (by show 2 * 0 + _ ≤ _; omega) (hb C.2.1 hd) (fun _ _ => ⟨rfl, eT, hce, hsl⟩)
  dsimp only [Pt.U, Pt.locs, Pt.cells, Pt.slots] at X' l1 y1 z1 st hq
  subst l1 y1 z1
  obtain ⟨s₂, o, L, k1, k2⟩ := K v T'.heap Lc hq vm0 T' _ hZ hown (hB _ _ _ _ hq hBs) X' (Fr.app hF (hQ _ _ _ hq)) rfl
  exact ⟨s₂, o, L, st.trans k1, k2⟩
/-! ### the ends of a walk that interns nothing -/
theorem Go.retI (C : Cx p meth c bytes ml (some .int)) {z : Int32} {Q : Option Value → Heap → Prop} (hd : decode bytes pc = .ok (.ireturn, 1)) (hc : cells ≤ R.cells) (hl : slots ≤ R.slots) (hQ : Q (some (.int z)) h) : Go p l e R s m args below meth c Z own n0 (Bn s) (EnN s R n0 Q) h cells slots pc Ls (.int z :: S) := fun vm0 T locs hZ hown hB X hF eT => by
  obtain rfl : vm0 = s.vm := hB
  obtain ⟨fs, hr, hrun, hended, hW, hsame⟩ := X.leave (v := some (.int z)) (fun q => by rw [C.2.2.2.1] at q; cases q) C.2.2.2.2
  exact ⟨_, _, locs, Jvm.RoadKit.retOut X C.1 C.2.2.2.1 rfl (Or.inl ⟨rfl, Or.inl rfl, _, rfl⟩) (hb C.2.1 hd) hr, hrun, hended, _, rfl, ⟨by subst eT; exact hQ, hF⟩, ⟨_, rfl⟩, hW, hsame.mono hc hl⟩
theorem Go.retN {t : FieldType} (C : Cx p meth c bytes ml (some t)) (ht : t = .boolean ∨ t = .byte ∨ t = .char ∨ t = .short) {z : Int32} {Q : Option Value → Heap → Prop} (hd : decode bytes pc = .ok (.ireturn, 1)) (hc : cells ≤ R.cells) (hl : slots ≤ R.slots) (hQ : Q (some (.int (nar t z))) h) : Go p l e R s m args below meth c Z own n0 (Bn s) (EnN s R n0 Q) h cells slots pc Ls (.int z :: S) := fun vm0 T locs hZ hown hB X hF eT => by
  obtain rfl : vm0 = s.vm := hB
  obtain ⟨fs, hr, hrun, hended, hW, hsame⟩ := X.leave (v := some (.int (nar t z))) (fun q => by rw [C.2.2.2.1] at q; cases q) C.2.2.2.2
  exact ⟨_, _, locs, Jvm.RoadKit.retN X C.1 C.2.2.2.1 ht (hb C.2.1 hd) hr, hrun, hended, _, rfl, ⟨by subst eT; exact hQ, hF⟩, ⟨_, rfl⟩, hW, hsame.mono hc hl⟩
theorem Go.retA {t : FieldType} (C : Cx p meth c bytes ml (some t)) (ht : t.isReference = true) {v : Value} {Q : Option Value → Heap → Prop} (hd : decode bytes pc = .ok (.areturn, 1)) (hv : v.isRef = true) (hc : cells ≤ R.cells) (hl : slots ≤ R.slots) (hQ : Q (some v) h) : Go p l e R s m args below meth c Z own n0 (Bn s) (EnN s R n0 Q) h cells slots pc Ls (v :: S) := fun vm0 T locs hZ hown hB X hF eT => by
  obtain rfl : vm0 = s.vm := hB
  obtain ⟨fs, hr, hrun, hended, hW, hsame⟩ := X.leave (v := some v) (fun q => by rw [C.2.2.2.1] at q; cases q) C.2.2.2.2
  have hn : narrow t v = v := by cases v <;> simp [Value.isRef] at hv <;> cases t <;> simp [FieldType.isReference] at ht <;> rfl
  exact ⟨_, _, locs, Jvm.RoadKit.retOut X C.1 C.2.2.2.1 hn (Or.inr (Or.inr (Or.inr (Or.inr ⟨rfl, ht, hv⟩)))) (hb C.2.1 hd) hr, hrun, hended, _, rfl, ⟨by subst eT; exact hQ, hF⟩, ⟨_, rfl⟩, hW, hsame.mono hc hl⟩
theorem Go.retL (C : Cx p meth c bytes ml (some .long)) {z : Int64} {Q : Option Value → Heap → Prop} (hd : decode bytes pc = .ok (.lreturn, 1)) (hc : cells ≤ R.cells) (hl : slots ≤ R.slots) (hQ : Q (some (.long z)) h) : Go p l e R s m args below meth c Z own n0 (Bn s) (EnN s R n0 Q) h cells slots pc Ls (.long z :: S) := fun vm0 T locs hZ hown hB X hF eT => by
  obtain rfl : vm0 = s.vm := hB
  obtain ⟨fs, hr, hrun, hended, hW, hsame⟩ := X.leave (v := some (.long z)) (fun q => by rw [C.2.2.2.1] at q; cases q) C.2.2.2.2
  exact ⟨_, _, locs, Jvm.RoadKit.retOut X C.1 C.2.2.2.1 rfl (Or.inr (Or.inl ⟨rfl, rfl, _, rfl⟩)) (hb C.2.1 hd) hr, hrun, hended, _, rfl, ⟨by subst eT; exact hQ, hF⟩, ⟨_, rfl⟩, hW, hsame.mono hc hl⟩
theorem Go.retD (C : Cx p meth c bytes ml (some .double)) {z : UInt64} {Q : Option Value → Heap → Prop} (hd : decode bytes pc = .ok (.dreturn, 1)) (hc : cells ≤ R.cells) (hl : slots ≤ R.slots) (hQ : Q (some (.double z)) h) : Go p l e R s m args below meth c Z own n0 (Bn s) (EnN s R n0 Q) h cells slots pc Ls (.double z :: S) := fun vm0 T locs hZ hown hB X hF eT => by
  obtain rfl : vm0 = s.vm := hB
  obtain ⟨fs, hr, hrun, hended, hW, hsame⟩ := X.leave (v := some (.double z)) (fun q => by rw [C.2.2.2.1] at q; cases q) C.2.2.2.2
  exact ⟨_, _, locs, Jvm.RoadKit.retOut X C.1 C.2.2.2.1 rfl (Or.inr (Or.inr (Or.inl ⟨rfl, rfl, _, rfl⟩))) (hb C.2.1 hd) hr, hrun, hended, _, rfl, ⟨by subst eT; exact hQ, hF⟩, ⟨_, rfl⟩, hW, hsame.mono hc hl⟩
theorem Go.retV (C : Cx p meth c bytes ml none) {Q : Option Value → Heap → Prop} (hd : decode bytes pc = .ok (.return_, 1)) (hc : cells ≤ R.cells) (hl : slots ≤ R.slots) (hQ : Q none h) : Go p l e R s m args below meth c Z own n0 (Bn s) (EnN s R n0 Q) h cells slots pc Ls [] := fun vm0 T locs hZ hown hB X hF eT => by
  obtain rfl : vm0 = s.vm := hB
  obtain ⟨fs, hr, hrun, hended, hW, hsame⟩ := X.leave (v := none) (fun q => rfl) C.2.2.2.2
  exact ⟨_, _, locs, X.returnOut C.1 C.2.2.2.1 (hb C.2.1 hd) hr, hrun, hended, _, rfl, ⟨by subst eT; exact hQ, hF⟩, ⟨_, rfl⟩, hW, hsame.mono hc hl⟩
/-! ### arrays by what they hold -/
theorem Go.newPV (C : Cx p meth c bytes ml ret) {Bs' : Vm → Heap → Prop} (hE : ∀ vm h', Ext h h' → h.size < h'.size → Bs vm h → Bs' vm h') {aty : ArrayType} {n : Int32} (hd : decode bytes pc = .ok (.newarray aty, 2)) (w : (Cond.arrayClass (newarray.typeOf aty)).before a0 Z = true) (hn : ¬ n < 0) {cap : Nat} (hcap : n.toNatClampNeg ≤ cap) (hb8 : cap * 8 ≤ 536870912) (hc : cells + 1 ≤ R.cells) (hl : slots + cap ≤ R.slots) (hp : pc + 2 = pc') {dv : Value} (hdv : defaultValue (newarray.typeOf aty) = dv)
    (K : ∀ h' cA, Ext h h' → Arv Z h' h.size cA (newarray.typeOf aty) n (List.replicate cap dv) dv → Go p l e R s m args below meth c Z own n0 Bs' En h' (cells + 1) (slots + cap) pc' Ls (.ref h.size :: S)) :
    Go p l e R s m args below meth c Z own n0 Bs En h cells slots pc Ls (.int n :: S) :=
  Go.newP C hE hd w hn hcap hb8 hc hl hp fun h' cA E A => K h' cA E (by subst hdv; simpa using (Arv.new A hn).pad (pad_rep [] _ cap))
theorem arv_in {a : Addr} {k : ClassId} {ty : FieldType} {z j : Int32} {vs : List Value} {dv : Value} (V : Arv Z h a k ty z vs dv) (h0 : ¬ j < 0) (hz : j < z) : ∃ cl, Arr Z h a cl ty ∧ ¬ (j < 0 ∨ cl.slots.size ≤ j.toNatClampNeg) ∧ cl.slots[j.toNatClampNeg]? = some (vs.getD j.toNatClampNeg dv) := by
  obtain ⟨cl, A, q, S, M, H, U⟩ := V
  have hin := inb_of S ⟨h0, hz⟩
  exact ⟨cl, A, hin, H.at hin rfl⟩
theorem Go.castoreV (C : Cx p meth c bytes ml ret) {a : Addr} {k : ClassId} {z j x : Int32} {vs : List Value} {dv : Value} (hd : decode bytes pc = .ok (.castore, 1)) (V : Arv Z h a k .char z vs dv) (h0 : ¬ j < 0) (hz : j < z) (i : Nat) (hji : j.toNatClampNeg = i) (hi : i < vs.length) (hn : n0 ≤ a) (hB : ∀ vm h', Wr h h' a j.toNatClampNeg (.int (nar .char x)) → Bs vm h → Bs vm h') (hp : pc + 1 = pc')
    (K : ∀ h', Wr h h' a j.toNatClampNeg (.int (nar .char x)) → Arv Z h' a k .char z (vs.set i (.int (nar .char x))) dv → Go p l e R s m args below meth c Z own n0 Bs En h' cells slots pc' Ls S) :
    Go p l e R s m args below meth c Z own n0 Bs En h cells slots pc Ls (.int x :: .int j :: .ref a :: S) := by
  obtain ⟨cl, A, q, S1, M, H, U⟩ := V
  exact Go.castore C hd A (inb_of S1 ⟨h0, hz⟩) hn hB hp fun h' W => K h' W (Arv.set A q S1 M H U (fits_nar_char _) W i hji hi)
theorem Go.bastoreV (C : Cx p meth c bytes ml ret) {a : Addr} {k : ClassId} {z j x : Int32} {vs : List Value} {dv : Value} (hd : decode bytes pc = .ok (.bastore, 1)) (V : Arv Z h a k .byte z vs dv) (h0 : ¬ j < 0) (hz : j < z) (i : Nat) (hji : j.toNatClampNeg = i) (hi : i < vs.length) (hn : n0 ≤ a) (hB : ∀ vm h', Wr h h' a j.toNatClampNeg (.int (nar .byte x)) → Bs vm h → Bs vm h') (hp : pc + 1 = pc')
    (K : ∀ h', Wr h h' a j.toNatClampNeg (.int (nar .byte x)) → Arv Z h' a k .byte z (vs.set i (.int (nar .byte x))) dv → Go p l e R s m args below meth c Z own n0 Bs En h' cells slots pc' Ls S) :
    Go p l e R s m args below meth c Z own n0 Bs En h cells slots pc Ls (.int x :: .int j :: .ref a :: S) := by
  obtain ⟨cl, A, q, S1, M, H, U⟩ := V
  exact Go.bastore C hd A (inb_of S1 ⟨h0, hz⟩) hn hB hp fun h' W => K h' W (Arv.set A q S1 M H U (fits_nar_byte _) W i hji hi)
theorem Go.dastoreV (C : Cx p meth c bytes ml ret) {a : Addr} {k : ClassId} {z j : Int32} {x : UInt64} {vs : List Value} {dv : Value} (hd : decode bytes pc = .ok (.dastore, 1)) (V : Arv Z h a k .double z vs dv) (h0 : ¬ j < 0) (hz : j < z) (i : Nat) (hji : j.toNatClampNeg = i) (hi : i < vs.length) (hn : n0 ≤ a) (hB : ∀ vm h', Wr h h' a j.toNatClampNeg (.double x) → Bs vm h → Bs vm h') (hp : pc + 1 = pc')
    (K : ∀ h', Wr h h' a j.toNatClampNeg (.double x) → Arv Z h' a k .double z (vs.set i (.double x)) dv → Go p l e R s m args below meth c Z own n0 Bs En h' cells slots pc' Ls S) :
    Go p l e R s m args below meth c Z own n0 Bs En h cells slots pc Ls (.double x :: .int j :: .ref a :: S) := fun vm0 T locs hZ hown hBs X hF eT => by
  subst hp
  obtain ⟨cl, A, q, S1, M, H, U⟩ := V
  obtain ⟨T', h', X', e', W, st⟩ := stD X C.1 hZ eT A (inb_of S1 ⟨h0, hz⟩) (g := mkF m pc Ls (.double x :: .int j :: .ref a :: S)) rfl rfl (hb C.2.1 hd)
  obtain ⟨s₂, o, L, k1, k2⟩ := K h' W (Arv.set A q S1 M H U rfl W i hji hi) vm0 T' _ hZ hown (hB _ _ W hBs) X' (Fr.snoc X' hF hn) e'
  exact ⟨s₂, o, L, st _ k1, k2⟩
theorem Go.daloadV (C : Cx p meth c bytes ml ret) {a : Addr} {k : ClassId} {z j : Int32} {vs : List Value} {dv v : Value} (hd : decode bytes pc = .ok (.daload, 1)) (V : Arv Z h a k .double z vs dv) (h0 : ¬ j < 0) (hz : j < z) (hv : vs.getD j.toNatClampNeg dv = v) (hp : pc + 1 = pc')
    (K : Go p l e R s m args below meth c Z own n0 Bs En h cells slots pc' Ls (v :: S)) : Go p l e R s m args below meth c Z own n0 Bs En h cells slots pc Ls (.int j :: .ref a :: S) := by
  obtain ⟨cl, A, hin, q⟩ := arv_in V h0 hz
  exact Go.daload C hd A hin (hv ▸ q) hp K
theorem Go.aaloadV (C : Cx p meth c bytes ml ret) {a : Addr} {k : ClassId} {ty : FieldType} {z j : Int32} {vs : List Value} {dv v : Value} (hd : decode bytes pc = .ok (.aaload, 1)) (V : Arv Z h a k ty z vs dv) (hty : ty.isReference = true) (h0 : ¬ j < 0) (hz : j < z) (hv : vs.getD j.toNatClampNeg dv = v) (hp : pc + 1 = pc')
    (K : Go p l e R s m args below meth c Z own n0 Bs En h cells slots pc' Ls (v :: S)) : Go p l e R s m args below meth c Z own n0 Bs En h cells slots pc Ls (.int j :: .ref a :: S) := by
  obtain ⟨cl, A, hin, q⟩ := arv_in V h0 hz
  exact Go.aaload C hd A hty hin (hv ▸ q) hp K
/-- newarray, and the array's class by its name -/
theorem Go.newPVE (C : Cx p meth c bytes ml ret) {Bs' : Vm → Heap → Prop} (hE : ∀ vm h', Ext h h' → h.size < h'.size → Bs vm h → Bs' vm h') {aty : ArrayType} {n : Int32} (hd : decode bytes pc = .ok (.newarray aty, 2)) (w : (Cond.arrayClass (newarray.typeOf aty)).before a0 Z = true) (hn : ¬ n < 0) {cap : Nat} (hcap : n.toNatClampNeg ≤ cap) (hb8 : cap * 8 ≤ 536870912) (hc : cells + 1 ≤ R.cells) (hl : slots + cap ≤ R.slots) (hp : pc + 2 = pc') {dv : Value} (hdv : defaultValue (newarray.typeOf aty) = dv) {ad : String} (had : "[" ++ (newarray.typeOf aty).toString = ad)
    (K : ∀ h' cA, Ext h h' → Arv Z h' h.size cA (newarray.typeOf aty) n (List.replicate cap dv) dv → Exa Z h' h.size ad → Go p l e R s m args below meth c Z own n0 Bs' En h' (cells + 1) (slots + cap) pc' Ls (.ref h.size :: S)) :
    Go p l e R s m args below meth c Z own n0 Bs En h cells slots pc Ls (.int n :: S) := fun vm0 T locs hZ hown hB X hF eT => by
  subst hp hdv
  obtain ⟨T', h', cA, X', e', E, A, A2, st⟩ := Jvm.RoadKit.newPE X C.1 hZ w eT (g := mkF m pc Ls (.int n :: S)) rfl (hb C.2.1 hd) rfl hn hcap hb8 hc hl had
  obtain ⟨s₂, o, L, k1, k2⟩ := K h' cA E (by simpa using (Arv.new A hn).pad (pad_rep [] _ cap)) A2 vm0 T' locs hZ hown (hE _ _ E A.lt hB) X' hF e'
  exact ⟨s₂, o, L, st _ k1, k2⟩
/-- an array's clone() -/
theorem Go.cloneV (C : Cx p meth c bytes ml ret) {Bs' : Vm → Heap → Prop} (hE : ∀ vm h', Ext h h' → h.size < h'.size → Bs vm h → Bs' vm h') {i cap : Nat} {ad : String} {a : Addr} {k : ClassId} {ty : FieldType} {z : Int32} {vs : List Value} {dv : Value} (hd : decode bytes pc = .ok (.invokevirtual i, 3))
    (w1 : (Cond.methodLink own i ⟨ad, "clone", "()Ljava/lang/Object;"⟩).before a0 Z = true) (w2 : (Cond.sameMethod ad "java/lang/Object" "clone" "()Ljava/lang/Object;").before a0 Z = true) (w3 : (Cond.native ⟨"java/lang/Object", "clone", "()Ljava/lang/Object;"⟩).before a0 Z = true)
    (w4 : (Cond.instanceMethod ⟨"java/lang/Object", "clone", "()Ljava/lang/Object;"⟩).before a0 Z = true) (w5 : (Cond.selects ad ⟨ad, "clone", "()Ljava/lang/Object;"⟩ ⟨"java/lang/Object", "clone", "()Ljava/lang/Object;"⟩).before a0 Z = true) (w6 : (Cond.castable ad "java/lang/Cloneable").before a0 Z = true)
    (V : Arv Z h a k ty z vs dv) (E : Exa Z h a ad) (hsz : Ls.size = ml) (hfr : 1 ≤ R.frames) (hlo : (S.map fun v => v.category).sum + 14 ≤ R.locals) (hcap : z.toNatClampNeg ≤ cap) (hc : cells + 1 ≤ R.cells) (hsl : slots + cap ≤ R.slots) (hp : pc + 3 = pc')
    (K : ∀ h', Ext h h' → Arv Z h' h.size k ty z vs dv → Exa Z h' h.size ad → Go p l e R s m args below meth c Z own n0 Bs' En h' (cells + 1) (slots + cap) pc' Ls (.ref h.size :: S)) :
    Go p l e R s m args below meth c Z own n0 Bs En h cells slots pc Ls (.ref a :: S) := fun vm0 T locs hZ hown hB X hF eT => by
  subst hp
  obtain ⟨T', h', X', e', E1, A1, A2, st⟩ := Jvm.RoadKit.cloneH X C.1 hZ hown w1 w2 w3 w4 w5 w6 eT V.arh E (g := mkF m pc Ls (.ref a :: S)) rfl (by rw [C.2.2.1]; exact hsz) rfl (hb C.2.1 hd) hfr (W := (S.map fun v => v.category).sum) (by show 2 * 0 + _ ≤ _; omega) hlo hcap hc hsl
  obtain ⟨s₂, o, L, k1, k2⟩ := K h' E1 A1 A2 vm0 T' locs hZ hown (hE _ _ E1 A2.lt hB) X' hF e'
  exact ⟨s₂, o, L, st _ k1, k2⟩
theorem Go.baloadV (C : Cx p meth c bytes ml ret) {a : Addr} {k : ClassId} {z j : Int32} {vs : List Value} {dv v : Value} (hd : decode bytes pc = .ok (.baload, 1)) (V : Arv Z h a k .byte z vs dv) (h0 : ¬ j < 0) (hz : j < z) (hv : vs.getD j.toNatClampNeg dv = v) (hp : pc + 1 = pc')
    (K : Go p l e R s m args below meth c Z own n0 Bs En h cells slots pc' Ls (v :: S)) : Go p l e R s m args below meth c Z own n0 Bs En h cells slots pc Ls (.int j :: .ref a :: S) := by
  obtain ⟨cl, A, hin, q⟩ := arv_in V h0 hz
  exact Go.baload C hd A hin (hv ▸ q) hp K
theorem Go.caloadV (C : Cx p meth c bytes ml ret) {a : Addr} {k : ClassId} {z j : Int32} {vs : List Value} {dv v : Value} (hd : decode bytes pc = .ok (.caload, 1)) (V : Arv Z h a k .char z vs dv) (h0 : ¬ j < 0) (hz : j < z) (hv : vs.getD j.toNatClampNeg dv = v) (hp : pc + 1 = pc')
    (K : Go p l e R s m args below meth c Z own n0 Bs En h cells slots pc' Ls (v :: S)) : Go p l e R s m args below meth c Z own n0 Bs En h cells slots pc Ls (.int j :: .ref a :: S) := by
  obtain ⟨cl, A, hin, q⟩ := arv_in V h0 hz
  exact Go.caload C hd A hin (hv ▸ q) hp K
theorem Go.arraylengthV (C : Cx p meth c bytes ml ret) {a : Addr} {k : ClassId} {ty : FieldType} {z : Int32} {vs : List Value} {dv : Value} (hd : decode bytes pc = .ok (.arraylength, 1)) (V : Arv Z h a k ty z vs dv) (hp : pc + 1 = pc')
    (K : Go p l e R s m args below meth c Z own n0 Bs En h cells slots pc' Ls (.int z :: S)) : Go p l e R s m args below meth c Z own n0 Bs En h cells slots pc Ls (.ref a :: S) := by
  obtain ⟨cl, A, q, S1, M, H, U⟩ := V
  exact Go.arraylength C hd A (len_of S1 M) hp K
end Heaps
end Jvm.Own
namespace Jvm.Own
open Jvm Jvm.ClassFile Sem Op Lib Jvm.Free Jvm.Stand Jvm.LawKit Jvm.RoadKit Bundle
section Wide
variable {p : Program} {l : Launch} {e : Env} {R : Room} {s : State} {m : MethodId} {args : Array Value} {below : List Frame} {meth : Method} {c : Code} {Z : State} {own : String} {n0 : Nat} {Bs : Vm → Heap → Prop} {En : Outcome → State → List Loc → Prop} {h h' : Heap} {cells slots pc pc' : Nat} {Ls : Array Slot} {S : List Value} {bytes : ByteArray} {ml : Nat} {ret : Option FieldType} {a0 : Array Value} {EL : List (String × Nat)} {Sf : List Addr} {vm : Vm}
/-- the base of a walk that may intern: since the start s; the addresses Sf are no literal's -/
def Bw (s Z : State) (EL : List (String × Nat)) (Sf : List Addr) : Vm → Heap → Prop := fun vm h => (∃ k0, s.Since vm k0 ∧ k0 ≤ h.size) ∧ CHr Z EL s.vm s.heap vm h ∧ ∀ x ∈ Sf, Safe Z EL vm h x ∧ x < h.size
/-- how a walk ends that may intern -/
def EnW (s : State) (R : Room) (n0 : Nat) (Z : State) (EL : List (String × Nat)) (Q : Option Value → Heap → Prop) : Outcome → State → List Loc → Prop := fun o s₂ L => ∃ v, o = .returned v ∧ (Q v s₂.heap ∧ Fr n0 L) ∧ CHr Z EL s.vm s.heap s₂.vm s₂.heap ∧ ReturnedEndW s o s₂ L R.cells R.slots
/-- a contract of a body that may intern -/
def CtW (l : Launch) (Z : State) (EL : List (String × Nat)) (Sf : List Addr) (y : MethodName) (yb : ByteArray) (yl : Nat) (yr : Option FieldType) (ws : List Jvm.Cond) (rm : Room) (as' : Array Value) (h0 : Heap) (n0 : Nat) (Q : Option Value → Heap → Prop) : Prop :=
  MetFree l y (head1 (Cond.code y yb yl yr :: ws) rm) (fun a U => a = as' ∧ Z.Warmed39 U.vm ∧ U.heap = h0 ∧ CHv Z EL U.vm h0 ∧ ∀ x ∈ Sf, Safe Z EL U.vm h0 x ∧ x < h0.size) (fun _ _ _ _ _ => True) (fun _ U o U' => ∃ v L, o = .returned v ∧ (Q v U'.heap ∧ Fr n0 L) ∧ CHr Z EL U.vm U.heap U'.vm U'.heap ∧ ReturnedEndW U o U' L rm.cells rm.slots)
theorem CtW.of {y : MethodName} {yb : ByteArray} {yl : Nat} {yr : Option FieldType} {ws : List Jvm.Cond} {rm : Room} {as' : Array Value} {h0 : Heap} {Q : Option Value → Heap → Prop} {L0 : Array Slot} (hp : plainFor y = true) (hef : ∀ m, entryFrame m as' yl = mkF m 0 L0 [])
    (body : ∀ (p : Program) (e : Env) (s : State) (m : MethodId) (below : List Frame) (meth : Method) (c : Code), Cx p meth c yb yl yr → meth.name = y.name → Go p l e rm s m as' below meth c Z y.cls n0 (Bw s Z EL Sf) (EnW s rm n0 Z EL Q) h0 0 0 0 L0 []) : CtW l Z EL Sf y yb yl yr ws rm as' h0 n0 Q := by
  refine MetFree.of_bodySF hp hisR ?_
  intro p e s m args below meth c s₁ Bd hml0 hP hK
  obtain ⟨rfl, hZ, hh, hC, hSf⟩ := hP
  have X0 := Stand.of_body Bd
  have hb0 : Bw s Z EL Sf s.vm h0 := ⟨⟨s.heap.size, (State.WarmedH.refl s).since _, by rw [hh]; exact Nat.le_refl _⟩, by subst hh; exact CHr.refl hC, hSf⟩
  obtain ⟨s₂, o, L, h1, h2, h3, v, h4, h5, h6⟩ := body p e s m below meth c ⟨Bd.exec, Bd.bytes, hml0, Bd.returns, Bd.notSynchronized⟩ (name_of_methodNamed Bd.named Bd.method).1 s.vm s₁ [] hZ (findClass_of_methodNamed Bd.named) hb0 X0 (Fr.nil n0) (by rw [← hh, Bd.state]; rfl)
  exact ⟨s₂, o, castTop (hef m) h1, h2, h3, v, L, h4, h5, h6⟩
/-- a payment of a callee that may intern -/
def PayW (l : Launch) (R : Room) (p : Program) (e : Env) (below : List Frame) (s : State) (args : Array Value) (Z : State) (EL : List (String × Nat)) (Sf : List Addr) (y : MethodName) (ln W : Nat) (as' : Array Value) (h : Heap) (kc ks : Nat) (Q : Option Value → Heap → List Loc → Prop) : Prop :=
  ∀ vm0 : Vm, Z.Warmed39 vm0 → CHv Z EL vm0 h → (∀ x ∈ Sf, Safe Z EL vm0 h x ∧ x < h.size) → BackS l R p e below (s.setVm vm0) args y ln W (fun A a => a = as' ∧ A.U.heap = h ∧ A.cells + kc ≤ R.cells ∧ A.slots + ks ≤ R.slots) (fun A _ v B => ∃ L, Q v B.U.heap L ∧ B.locs = A.locs ++ L ∧ B.cells = A.cells + kc ∧ B.slots = A.slots + ks ∧ CHr Z EL vm0 h B.U.vm B.U.heap)
theorem CtW.pay {y : MethodName} {yb : ByteArray} {yl : Nat} {yr : Option FieldType} {rm : Room} {as' : Array Value} {ln W : Nat} {Q : Option Value → Heap → Prop} (hM : CtW l Z EL Sf y yb yl yr [] rm as' h n0 Q) (hEL : EW Z a0 EL) (w4 : (Cond.code y yb yl yr).before a0 Z = true) (w3 : (Cond.initialized y.cls).before a0 Z = true) (hfr : rm.frames + 1 ≤ R.frames) (hlo : W + (yl + 11) + rm.locals ≤ R.locals) :
    PayW l R p e below s args Z EL Sf y ln W as' h rm.cells rm.slots (fun v h' L => Q v h' ∧ Fr n0 L) := fun vm0 hZ H hSf =>
  BackS.of_freeW (bytes := yb) (maxL := yl) (ret := yr) (E := fun _ first o t L k n => k = rm.cells ∧ n = rm.slots ∧ (∃ v, o = .returned v ∧ (Q v t.heap ∧ Fr n0 L)) ∧ CHr Z EL first.vm first.heap t.vm t.heap) hM hfr hlo
    (fun m meth c A a Y hp => have hU : Z.Warmed39 A.U.vm := wtrans (s := s.setVm vm0) hZ Y.warmed
      ⟨by show (Cond.and _ .tt).before a A.U = true; rw [Cond.before_and, mv hU w4]; rfl, mv hU w4, mv hU w3, hp.2.2.1, hp.2.2.2⟩)
    (fun m meth c A a g mk Y hp => ⟨hp.1, wtrans (s := s.setVm vm0) hZ Y.warmed, hp.2.1, (CHv.at Y hZ hEL H).1, fun x hx => ⟨(CHv.at Y hZ hEL H).safe (hSf x hx).2 (hSf x hx).1, (hSf x hx).2⟩⟩) (fun _ _ _ _ _ _ _ _ _ => trivial)
    (fun _ _ _ _ ⟨v, L, h1, h2, h3, h4⟩ => ⟨L, _, _, h4, rfl, rfl, ⟨v, h1, h2⟩, h3⟩)
    (fun m meth c A a g mk v t L k n Y hp _ _ ⟨e1, e2, ⟨v', e3, e4⟩, e5⟩ => by
      cases e3; subst e1 e2
      refine ⟨L, e4, rfl, rfl, rfl, (CHv.at Y hZ hEL H).trans ?_⟩
      rw [← hp.2.1]; exact e5)
/-! ### Bw over a step -/
theorem Bw.ext (E : Ext h h') (q : Bw s Z EL Sf vm h) : Bw s Z EL Sf vm h' := by
  obtain ⟨⟨k0, q1, q2⟩, q3, q4⟩ := q
  exact ⟨⟨k0, q1, Nat.le_trans q2 E.1⟩, q3.trans (CHr.ext E q3.1), fun x hx => ⟨Safe.ext E q3.1 (q4 x hx).1, Nat.lt_of_lt_of_le (q4 x hx).2 E.1⟩⟩
theorem Bw.new {a : Addr} (ha : a = h.size) (E : Ext h h') (hl : h.size < h'.size) (q : Bw s Z EL Sf vm h) : Bw s Z EL (a :: Sf) vm h' := by
  subst ha
  have q' := q.ext E
  refine ⟨q'.1, q'.2.1, fun x hx => ?_⟩
  rcases List.mem_cons.mp hx with rfl | hx
  · exact ⟨Safe.ext E q.2.1.1 (Safe.new (Nat.le_refl _)), hl⟩
  · exact q'.2.2 x hx
theorem bwN : ∀ vm h', Ext h h' → h.size < h'.size → Bw s Z EL Sf vm h → Bw s Z EL (h.size :: Sf) vm h' := fun _ _ E hl q => Bw.new rfl E hl q
theorem Bw.keep {ws : List Addr} (K : Keep h h' ws) (hs : ∀ x ∈ ws, x ∈ Sf) (q : Bw s Z EL Sf vm h) : Bw s Z EL Sf vm h' := by
  obtain ⟨⟨k0, q1, q2⟩, q3, q4⟩ := q
  exact ⟨⟨k0, q1, Nat.le_trans q2 K.1⟩, q3.trans (CHr.keep K (fun x hx => (q4 x (hs x hx)).1) q3.1), fun x hx => ⟨Safe.keep K (fun x hx => (q4 x (hs x hx)).1) q3.1 (q4 x hx).1, Nat.lt_of_lt_of_le (q4 x hx).2 K.1⟩⟩
theorem Bw.wr {a : Addr} {sl : Nat} {v : Value} (W : Wr h h' a sl v) (hs : a ∈ Sf) (q : Bw s Z EL Sf vm h) : Bw s Z EL Sf vm h' := q.keep (Keep.of_wr W) (fun x hx => by cases List.mem_singleton.mp hx; exact hs)
theorem Bw.since {vm1 : Vm} {h1 : Heap} (q : Bw s Z EL Sf vm h) (h2 : (s.setVm vm).Since vm1 h1.size) (hg : h.size ≤ h1.size) (hC : CHr Z EL vm h vm1 h1) : Bw s Z EL Sf vm1 h1 := by
  obtain ⟨⟨k0, q1, q2⟩, q3, q4⟩ := q
  exact ⟨⟨h1.size, q1.trans h2 (Nat.le_trans q2 hg), Nat.le_refl _⟩, q3.trans hC, fun x hx => ⟨hC.safe (q4 x hx).2 (q4 x hx).1, Nat.lt_of_lt_of_le (q4 x hx).2 hg⟩⟩
/-! ### a String constant -/
theorem Go.ldcW (C : Cx p meth c bytes ml ret) {i n : Nat} {text : String} {vs : List Value} {z : Int32} (hd : decode bytes pc = .ok (.ldc i, 2)) (w : (Cond.stringLink own i text).before a0 Z = true) (wS : ∀ a ∈ Bundle.stringAtoms, a.before a0 Z = true) (hEL : EW Z a0 EL) (hmem : (own, i) ∈ EL)
    (ht : (∀ c ∈ text.toList, c.toNat < 256) ∧ text.toList.map (fun c => Value.int (Jvm.Lit.byteI c.toNat.toUInt16)) = vs) (hz : ¬ z < 0) (hl : z.toNatClampNeg = vs.length) (hn : 4 * text.toList.length ≤ n) (hbig : n ≤ 536870912) (hc : cells + 2 ≤ R.cells) (hl' : slots + (n + 4) ≤ R.slots) (hp : pc + 2 = pc')
    (K : ∀ h' a b k, Ext h h' → Exa Z h' a "java/lang/String" → Fld Z h' a "java/lang/String" "coder" "B" (.int 0) → Fld Z h' a "java/lang/String" "value" "[B" (.ref b) → Arv Z h' b k .byte z vs (.int 0) → (∀ x ∈ Sf, x ≠ a ∧ x ≠ b) → Go p l e R s m args below meth c Z own n0 (Bw s Z EL Sf) En h' (cells + 2) (slots + (n + 4)) pc' Ls (.ref a :: S)) :
    Go p l e R s m args below meth c Z own n0 (Bw s Z EL Sf) En h cells slots pc Ls S := fun vm0 T locs hZ hown hB X hF eT => by
  subst hp
  obtain ⟨⟨k0, q1, q2⟩, q3, q4⟩ := hB
  obtain ⟨a, T', h', k1, b, k, X', e', E, S1, S2, hZ', hown', E1, F1, F2, V1, -, -, hC, -, hne, st⟩ := ldcCH X C.1 hZ hown w wS eT q1 q2 hEL hmem q3.1 ht hz hl (g := mkF m pc Ls S) rfl (hb C.2.1 hd) hn hbig hc hl'
  obtain ⟨s₂, o, L, k1, k2⟩ := K h' a b k E E1 F1 F2 V1 (fun x hx => hne x (hC.safe (q4 x hx).2 (q4 x hx).1)) T'.vm T' locs hZ' hown' ⟨⟨k1, S1, S2⟩, q3.trans hC, fun x hx => ⟨hC.safe (q4 x hx).2 (q4 x hx).1, Nat.lt_of_lt_of_le (q4 x hx).2 E.1⟩⟩ X' hF e'
  exact ⟨s₂, o, L, st _ k1, k2⟩
/-! ### calls of what may intern -/
theorem Go.callSW (C : Cx p meth c bytes ml ret) {i : Nat} {y : MethodName} {yb : ByteArray} {yl : Nat} {yr : Option FieldType} {argsL rest : List Value} {W kc ks : Nat} {Q : Option Value → Heap → List Loc → Prop} {Sf' : List Addr}
    (hd : decode bytes pc = .ok (.invokestatic i, 3)) (w1 : (Cond.methodLink own i y).before a0 Z = true) (w2 : (Cond.static y).before a0 Z = true) (w3 : (Cond.initialized y.cls).before a0 Z = true) (w4 : (Cond.code y yb yl yr).before a0 Z = true) (hy : y.cls ≠ "java/lang/invoke/MethodHandle" ∧ y.cls ≠ "java/lang/invoke/VarHandle")
    (hS : S = argsL.reverse ++ rest) (hlen : ∀ sig, parseMethodDescriptor y.desc = some sig → argsL.length = sig.parameters.length) (hsz : Ls.size = ml) (hW : (rest.map fun v => v.category).sum ≤ W) (hK : PayW l R p e below s args Z EL Sf' y 3 W argsL.toArray h kc ks Q) (hSf : ∀ x ∈ Sf', x ∈ Sf)
    (hQ : ∀ v h' L, Q v h' L → Fr n0 L) (hce : cells + kc ≤ R.cells) (hsl : slots + ks ≤ R.slots) (hp : pc + 3 = pc')
    (K : ∀ v h' L, Q v h' L → h.size ≤ h'.size → Go p l e R s m args below meth c Z own n0 (Bw s Z EL Sf) En h' (cells + kc) (slots + ks) pc' Ls (v.toList ++ rest)) :
    Go p l e R s m args below meth c Z own n0 (Bw s Z EL Sf) En h cells slots pc Ls S := fun vm0 T locs hZ hown hB X hF eT => by
  subst hp hS
  obtain ⟨v, vm1, ⟨T', L', k', n'⟩, -, X', S', g', ⟨Lc, hq, l1, y1, z1, hC⟩, st⟩ := callSS X C.1 (y := y) hown (mvT (s := s.setVm vm0) hZ w1) (mvT (s := s.setVm vm0) hZ w2) (mvT (s := s.setVm vm0) hZ w3) (mvT (s := s.setVm vm0) hZ w4) hy (hK vm0 hZ hB.2.1.1 (fun x hx => hB.2.2 x (hSf x hx))) (g := mkF m pc Ls (argsL.reverse ++ rest)) rfl (by rw [C.2.2.1]; exact hsz) (argsL := argsL) (rest := rest) hlen rfl (by show 2 * 0 + _ ≤ _; omega) (hb C.2.1 hd) (fun _ _ => ⟨rfl, eT, hce, hsl⟩)
  dsimp only [Pt.U, Pt.locs, Pt.cells, Pt.slots] at X' S' g' l1 y1 z1 hC st hq
  subst l1 y1 z1 eT
  obtain ⟨s₂, o, L, k1, k2⟩ := K v T'.heap Lc hq g' T'.vm T' _ (State.Warmed39.trans (t := s.setVm vm0) hZ S'.1) (by rw [S'.1.alike.findClass]; exact hown) (hB.since S' g' hC) X' (Fr.app hF (hQ _ _ _ hq)) rfl
  exact ⟨s₂, o, L, st.trans k1, k2⟩
theorem Go.callNW (C : Cx p meth c bytes ml ret) {i : Nat} {a : Addr} {y : MethodName} {yb : ByteArray} {yl : Nat} {argsL rest : List Value} {W kc ks : Nat} {Q : Option Value → Heap → List Loc → Prop} {Sf' : List Addr}
    (hd : decode bytes pc = .ok (.invokespecial i, 3)) (hy1 : y.name = "<init>") (w1 : (Cond.methodLink own i y).before a0 Z = true) (w2 : (Cond.instanceMethod y).before a0 Z = true) (w3 : (Cond.code y yb yl none).before a0 Z = true) (hy : y.cls ≠ "java/lang/invoke/MethodHandle" ∧ y.cls ≠ "java/lang/invoke/VarHandle")
    (hS : S = argsL.reverse ++ .ref a :: rest) (hlen : ∀ sig, parseMethodDescriptor y.desc = some sig → argsL.length = sig.parameters.length) (hsz : Ls.size = ml) (hW : (rest.map fun v => v.category).sum ≤ W) (hK : PayW l R p e below s args Z EL Sf' y 3 W (.ref a :: argsL).toArray h kc ks Q) (hSf : ∀ x ∈ Sf', x ∈ Sf)
    (hQ : ∀ v h' L, Q v h' L → Fr n0 L) (hce : cells + kc ≤ R.cells) (hsl : slots + ks ≤ R.slots) (hp : pc + 3 = pc')
    (K : ∀ v h' L, Q v h' L → h.size ≤ h'.size → Go p l e R s m args below meth c Z own n0 (Bw s Z EL Sf) En h' (cells + kc) (slots + ks) pc' Ls (v.toList ++ rest)) :
    Go p l e R s m args below meth c Z own n0 (Bw s Z EL Sf) En h cells slots pc Ls S := fun vm0 T locs hZ hown hB X hF eT => by
  subst hp hS
  obtain ⟨v, vm1, ⟨T', L', k', n'⟩, -, X', S', g', ⟨Lc, hq, l1, y1, z1, hC⟩, st⟩ := X.specialBackS C.1 (y := y) hy1 hown (mvT (s := s.setVm vm0) hZ w1) (mvT (s := s.setVm vm0) hZ w2) (mvT (s := s.setVm vm0) hZ w3) hy (hK vm0 hZ hB.2.1.1 (fun x hx => hB.2.2 x (hSf x hx))) (g := mkF m pc Ls (argsL.reverse ++ .ref a :: rest)) rfl (by rw [C.2.2.1]; exact hsz) (Steps.refl _) (a := a) (argsL := argsL) (rest := rest) hlen rfl (by show 2 * 0 + _ ≤ _; omega) (hb C.2.1 hd) (fun _ _ => ⟨rfl, eT, hce, hsl⟩)
  dsimp only [Pt.U, Pt.locs, Pt.cells, Pt.slots] at X' S' g' l1 y1 z1 hC st hq
  subst l1 y1 z1 eT
  obtain ⟨s₂, o, L, k1, k2⟩ := K v T'.heap Lc hq g' T'.vm T' _ (State.Warmed39.trans (t := s.setVm vm0) hZ S'.1) (by rw [S'.1.alike.findClass]; exact hown) (hB.since S' g' hC) X' (Fr.app hF (hQ _ _ _ hq)) rfl
  exact ⟨s₂, o, L, st.trans k1, k2⟩
theorem Go.callVW (C : Cx p meth c bytes ml ret) {i : Nat} {C0 : String} {b : Addr} {y z : MethodName} {argsL rest : List Value} {W kc ks : Nat} {Q : Option Value → Heap → List Loc → Prop} {Sf' : List Addr}
    (hd : decode bytes pc = .ok (.invokevirtual i, 3)) (w1 : (Cond.methodLink own i y).before a0 Z = true) (w2 : (Cond.declares y).before a0 Z = true) (w3 : (Cond.selects C0 y z).before a0 Z = true) (w4 : (Cond.instanceMethod z).before a0 Z = true) (hnf : ∀ st : State, Z.Warmed39 st.vm → NotFace st y) (hy : y.cls ≠ "java/lang/invoke/MethodHandle" ∧ y.cls ≠ "java/lang/invoke/VarHandle") (E : Exa Z h b C0)
    (hS : S = argsL.reverse ++ .ref b :: rest) (hlen : ∀ sig, parseMethodDescriptor y.desc = some sig → argsL.length = sig.parameters.length) (hsz : Ls.size = ml) (hW : (rest.map fun v => v.category).sum ≤ W) (hK : PayW l R p e below s args Z EL Sf' z 3 W (.ref b :: argsL).toArray h kc ks Q) (hSf : ∀ x ∈ Sf', x ∈ Sf)
    (hQ : ∀ v h' L, Q v h' L → Fr n0 L) (hce : cells + kc ≤ R.cells) (hsl : slots + ks ≤ R.slots) (hp : pc + 3 = pc')
    (K : ∀ v h' L, Q v h' L → h.size ≤ h'.size → Go p l e R s m args below meth c Z own n0 (Bw s Z EL Sf) En h' (cells + kc) (slots + ks) pc' Ls (v.toList ++ rest)) :
    Go p l e R s m args below meth c Z own n0 (Bw s Z EL Sf) En h cells slots pc Ls S := fun vm0 T locs hZ hown hB X hF eT => by
  subst hp hS
  obtain ⟨cq, kq, qa, qb, qc⟩ := isOf (s := s.setVm vm0) hZ eT E
  obtain ⟨v, vm1, ⟨T', L', k', n'⟩, -, X', S', g', ⟨Lc, hq, l1, y1, z1, hC⟩, st⟩ := X.virtualBackS C.1 (y := y) (z := z) hown (mvT (s := s.setVm vm0) hZ w1) (mvT (s := s.setVm vm0) hZ w2) (hnf (s.setVm vm0) hZ) (mvT (s := s.setVm vm0) hZ w3) (mvT (s := s.setVm vm0) hZ w4) hy (hK vm0 hZ hB.2.1.1 (fun x hx => hB.2.2 x (hSf x hx))) qa qc (g := mkF m pc Ls (argsL.reverse ++ .ref b :: rest)) rfl (by rw [C.2.2.1]; exact hsz) (Steps.refl _) (argsL := argsL) (rest := rest) hlen rfl (by show 2 * 0 + _ ≤ _; omega) (hb C.2.1 hd) (fun _ _ => ⟨rfl, eT, hce, hsl⟩)
  dsimp only [Pt.U, Pt.locs, Pt.cells, Pt.slots] at X' S' g' l1 y1 z1 hC st hq
  subst l1 y1 z1 eT
  obtain ⟨s₂, o, L, k1, k2⟩ := K v T'.heap Lc hq g' T'.vm T' _ (State.Warmed39.trans (t := s.setVm vm0) hZ S'.1) (by rw [S'.1.alike.findClass]; exact hown) (hB.since S' g' hC) X' (Fr.app hF (hQ _ _ _ hq)) rfl
  exact ⟨s₂, o, L, st.trans k1, k2⟩
/-! ### the ends of a walk that may intern -/
theorem retW (C : Cx p meth c bytes ml ret) {v : Option Value} {Q : Option Value → Heap → Prop} (hv : ret = none → v = none) (hc : cells ≤ R.cells) (hl : slots ≤ R.slots) (hQ : Q v h)
    (st : ∀ (T : State) (locs : List Loc) (vm0 : Vm) (fs : List Frame), Stand p l e R (s.setVm vm0) m args below meth c T locs cells slots → (∀ (f : JFrame) (acts : List Action), f.method = m → f.locked = none → f.entered = [] → (doReturn e (T.setTop f) acts v).1 = T.setFrames fs) → Steps p.tables e below (T.setTop (mkF m pc Ls S)) (T.setFrames fs)) (hEL : EW Z a0 EL) :
    Go p l e R s m args below meth c Z own n0 (Bw s Z EL Sf) (EnW s R n0 Z EL Q) h cells slots pc Ls S := fun vm0 T locs hZ hown hB X hF eT => by
  obtain ⟨⟨k0, q1, q2⟩, q3, q4⟩ := hB
  obtain ⟨fs, hr, hrun, hended, hREW⟩ := X.leaveW q1 (by rw [eT]; exact q2) (v := v) (fun q => hv (C.2.2.2.1 ▸ q)) C.2.2.2.2
  obtain ⟨g1, g2, g3, g4⟩ := hREW
  subst eT
  exact ⟨_, _, locs, st T locs vm0 fs X hr, hrun, hended, v, rfl, ⟨hQ, hF⟩, q3.trans (show CHr Z EL vm0 T.heap T.vm T.heap from CHv.at X hZ hEL q3.1), g1, g2, g3, g4.mono hc hl⟩
theorem Go.retIW (C : Cx p meth c bytes ml (some .int)) (hEL : EW Z a0 EL) {z : Int32} {Q : Option Value → Heap → Prop} (hd : decode bytes pc = .ok (.ireturn, 1)) (hc : cells ≤ R.cells) (hl : slots ≤ R.slots) (hQ : Q (some (.int z)) h) : Go p l e R s m args below meth c Z own n0 (Bw s Z EL Sf) (EnW s R n0 Z EL Q) h cells slots pc Ls (.int z :: S) :=
  retW C (fun q => nomatch q) hc hl hQ (fun T locs vm0 fs X hr => Jvm.RoadKit.retOut X C.1 C.2.2.2.1 rfl (Or.inl ⟨rfl, Or.inl rfl, _, rfl⟩) (hb C.2.1 hd) hr) hEL
theorem Go.retNW {t : FieldType} (C : Cx p meth c bytes ml (some t)) (hEL : EW Z a0 EL) (ht : t = .boolean ∨ t = .byte ∨ t = .char ∨ t = .short) {z : Int32} {Q : Option Value → Heap → Prop} (hd : decode bytes pc = .ok (.ireturn, 1)) (hc : cells ≤ R.cells) (hl : slots ≤ R.slots) (hQ : Q (some (.int (nar t z))) h) : Go p l e R s m args below meth c Z own n0 (Bw s Z EL Sf) (EnW s R n0 Z EL Q) h cells slots pc Ls (.int z :: S) :=
  retW C (fun q => nomatch q) hc hl hQ (fun T locs vm0 fs X hr => Jvm.RoadKit.retN X C.1 C.2.2.2.1 ht (hb C.2.1 hd) hr) hEL
theorem Go.retAW {t : FieldType} (C : Cx p meth c bytes ml (some t)) (hEL : EW Z a0 EL) (ht : t.isReference = true) {v : Value} {Q : Option Value → Heap → Prop} (hd : decode bytes pc = .ok (.areturn, 1)) (hv : v.isRef = true) (hc : cells ≤ R.cells) (hl : slots ≤ R.slots) (hQ : Q (some v) h) : Go p l e R s m args below meth c Z own n0 (Bw s Z EL Sf) (EnW s R n0 Z EL Q) h cells slots pc Ls (v :: S) :=
  retW C (fun q => nomatch q) hc hl hQ (fun T locs vm0 fs X hr => Jvm.RoadKit.retOut X C.1 C.2.2.2.1 (by cases v <;> simp [Value.isRef] at hv <;> cases t <;> simp [FieldType.isReference] at ht <;> rfl) (Or.inr (Or.inr (Or.inr (Or.inr ⟨rfl, ht, hv⟩)))) (hb C.2.1 hd) hr) hEL
theorem Go.retLW (C : Cx p meth c bytes ml (some .long)) (hEL : EW Z a0 EL) {z : Int64} {Q : Option Value → Heap → Prop} (hd : decode bytes pc = .ok (.lreturn, 1)) (hc : cells ≤ R.cells) (hl : slots ≤ R.slots) (hQ : Q (some (.long z)) h) : Go p l e R s m args below meth c Z own n0 (Bw s Z EL Sf) (EnW s R n0 Z EL Q) h cells slots pc Ls (.long z :: S) :=
  retW C (fun q => nomatch q) hc hl hQ (fun T locs vm0 fs X hr => Jvm.RoadKit.retOut X C.1 C.2.2.2.1 rfl (Or.inr (Or.inl ⟨rfl, rfl, _, rfl⟩)) (hb C.2.1 hd) hr) hEL
theorem Go.retVW (C : Cx p meth c bytes ml none) (hEL : EW Z a0 EL) {Q : Option Value → Heap → Prop} (hd : decode bytes pc = .ok (.return_, 1)) (hc : cells ≤ R.cells) (hl : slots ≤ R.slots) (hQ : Q none h) : Go p l e R s m args below meth c Z own n0 (Bw s Z EL Sf) (EnW s R n0 Z EL Q) h cells slots pc Ls [] :=
  retW C (fun _ => rfl) hc hl hQ (fun T locs vm0 fs X hr => X.returnOut C.1 C.2.2.2.1 (hb C.2.1 hd) hr) hEL
end Wide
end Jvm.Own
namespace Jvm.Own
open Jvm Jvm.ClassFile Sem Op Lib Jvm.Free Jvm.Stand Jvm.LawKit Jvm.RoadKit Bundle
section Wide
variable {p : Program} {l : Launch} {e : Env} {R : Room} {s : State} {m : MethodId} {args : Array Value} {below : List Frame} {meth : Method} {c : Code} {Z : State} {own : String} {n0 : Nat} {Bs : Vm → Heap → Prop} {En : Outcome → State → List Loc → Prop} {h h' : Heap} {cells slots pc pc' : Nat} {Ls : Array Slot} {S : List Value} {bytes : ByteArray} {ml : Nat} {ret : Option FieldType} {a0 : Array Value} {EL : List (String × Nat)} {Sf : List Addr} {vm : Vm}
/-- the entry i of o's pool holds its String -/
def LV (Z : State) (o : String) (i : Nat) (vm : Vm) : Prop := ∃ a, Lit (Z.setVm vm) o i a
theorem LV.stays {s : State} {o : String} {i : Nat} {vm1 : Vm} (L : LV Z o i vm) (hW : (s.setVm vm).Warmed39 vm1) : LV Z o i vm1 := by
  obtain ⟨a, q⟩ := L
  exact ⟨a, Lit.stays (s := s) q hW⟩
def TV : Vm → Prop := fun _ => True
def BwX (s Z : State) (EL : List (String × Nat)) (Sf : List Addr) (X : Vm → Prop) : Vm → Heap → Prop := fun vm h => Bw s Z EL Sf vm h ∧ X vm
theorem BwX.keep {X : Vm → Prop} {ws : List Addr} (K : Keep h h' ws) (hs : ∀ x ∈ ws, x ∈ Sf) (q : BwX s Z EL Sf X vm h) : BwX s Z EL Sf X vm h' := ⟨q.1.keep K hs, q.2⟩
theorem BwX.wr {X : Vm → Prop} {a : Addr} {sl : Nat} {v : Value} (W : Wr h h' a sl v) (hs : a ∈ Sf) (q : BwX s Z EL Sf X vm h) : BwX s Z EL Sf X vm h' := ⟨q.1.wr W hs, q.2⟩
theorem BwX.ext {X : Vm → Prop} (E : Ext h h') (q : BwX s Z EL Sf X vm h) : BwX s Z EL Sf X vm h' := ⟨q.1.ext E, q.2⟩
theorem bwxN {X : Vm → Prop} : ∀ vm h', Ext h h' → h.size < h'.size → BwX s Z EL Sf X vm h → BwX s Z EL (h.size :: Sf) X vm h' := fun vm h' E hl q => ⟨bwN vm h' E hl q.1, q.2⟩
def EnP (s : State) (R : Room) (n0 : Nat) (Z : State) (EL : List (String × Nat)) (P2 : Vm → Prop) (Q : Option Value → Heap → Prop) : Outcome → State → List Loc → Prop := fun o s₂ L => EnW s R n0 Z EL Q o s₂ L ∧ P2 s₂.vm
/-- a contract of a body that may intern -/
def CtP (l : Launch) (Z : State) (EL : List (String × Nat)) (Sf : List Addr) (P1 P2 : Vm → Prop) (y : MethodName) (yb : ByteArray) (yl : Nat) (yr : Option FieldType) (ws : List Jvm.Cond) (rm : Room) (as' : Array Value) (h0 : Heap) (n0 : Nat) (Q : Option Value → Heap → Prop) : Prop :=
  MetFree l y (head1 (Cond.code y yb yl yr :: ws) rm) (fun a U => a = as' ∧ Z.Warmed39 U.vm ∧ U.heap = h0 ∧ CHv Z EL U.vm h0 ∧ (∀ x ∈ Sf, Safe Z EL U.vm h0 x ∧ x < h0.size) ∧ P1 U.vm) (fun _ _ _ _ _ => True) (fun _ U o U' => ∃ v L, o = .returned v ∧ (Q v U'.heap ∧ Fr n0 L) ∧ CHr Z EL U.vm U.heap U'.vm U'.heap ∧ ReturnedEndW U o U' L rm.cells rm.slots ∧ P2 U'.vm)
theorem CtP.of {P1 P2 : Vm → Prop} {y : MethodName} {yb : ByteArray} {yl : Nat} {yr : Option FieldType} {ws : List Jvm.Cond} {rm : Room} {as' : Array Value} {h0 : Heap} {Q : Option Value → Heap → Prop} {L0 : Array Slot} (hp : plainFor y = true) (hef : ∀ m, entryFrame m as' yl = mkF m 0 L0 [])
    (body : ∀ (p : Program) (e : Env) (s : State) (m : MethodId) (below : List Frame) (meth : Method) (c : Code), Cx p meth c yb yl yr → meth.name = y.name → P1 s.vm → Go p l e rm s m as' below meth c Z y.cls n0 (Bw s Z EL Sf) (EnP s rm n0 Z EL P2 Q) h0 0 0 0 L0 []) : CtP l Z EL Sf P1 P2 y yb yl yr ws rm as' h0 n0 Q := by
  refine MetFree.of_bodySF hp hisR ?_
  intro p e s m args below meth c s₁ Bd hml0 hP hK
  obtain ⟨rfl, hZ, hh, hC, hSf, hP1⟩ := hP
  have X0 := Stand.of_body Bd
  have hb0 : Bw s Z EL Sf s.vm h0 := ⟨⟨s.heap.size, (State.WarmedH.refl s).since _, by rw [hh]; exact Nat.le_refl _⟩, by subst hh; exact CHr.refl hC, hSf⟩
  obtain ⟨s₂, o, L, h1, h2, h3, ⟨v, h4, h5, h6, h7⟩, h8⟩ := body p e s m below meth c ⟨Bd.exec, Bd.bytes, hml0, Bd.returns, Bd.notSynchronized⟩ (name_of_methodNamed Bd.named Bd.method).1 hP1 s.vm s₁ [] hZ (findClass_of_methodNamed Bd.named) hb0 X0 (Fr.nil n0) (by rw [← hh, Bd.state]; rfl)
  exact ⟨s₂, o, castTop (hef m) h1, h2, h3, v, L, h4, h5, h6, h7, h8⟩
/-- a payment of a callee that may intern -/
def PayP (l : Launch) (R : Room) (p : Program) (e : Env) (below : List Frame) (s : State) (args : Array Value) (Z : State) (EL : List (String × Nat)) (Sf : List Addr) (P1 P2 : Vm → Prop) (y : MethodName) (ln W : Nat) (as' : Array Value) (h : Heap) (kc ks : Nat) (Q : Option Value → Heap → List Loc → Prop) : Prop :=
  ∀ vm0 : Vm, Z.Warmed39 vm0 → CHv Z EL vm0 h → (∀ x ∈ Sf, Safe Z EL vm0 h x ∧ x < h.size) → P1 vm0 → BackS l R p e below (s.setVm vm0) args y ln W (fun A a => a = as' ∧ A.U.heap = h ∧ A.cells + kc ≤ R.cells ∧ A.slots + ks ≤ R.slots) (fun A _ v B => ∃ L, Q v B.U.heap L ∧ B.locs = A.locs ++ L ∧ B.cells = A.cells + kc ∧ B.slots = A.slots + ks ∧ CHr Z EL vm0 h B.U.vm B.U.heap ∧ P2 B.U.vm)
theorem CtP.pay {P1 P2 : Vm → Prop} (hst : ∀ (s : State) vm vm', (s.setVm vm).Warmed39 vm' → P1 vm → P1 vm') {y : MethodName} {yb : ByteArray} {yl : Nat} {yr : Option FieldType} {rm : Room} {as' : Array Value} {ln W : Nat} {Q : Option Value → Heap → Prop} (hM : CtP l Z EL Sf P1 P2 y yb yl yr [] rm as' h n0 Q) (hEL : EW Z a0 EL) (w4 : (Cond.code y yb yl yr).before a0 Z = true) (w3 : (Cond.initialized y.cls).before a0 Z = true) (hfr : rm.frames + 1 ≤ R.frames) (hlo : W + (yl + 11) + rm.locals ≤ R.locals) :
    PayP l R p e below s args Z EL Sf P1 P2 y ln W as' h rm.cells rm.slots (fun v h' L => Q v h' ∧ Fr n0 L) := fun vm0 hZ H hSf hP1 =>
  BackS.of_freeW (bytes := yb) (maxL := yl) (ret := yr) (E := fun _ first o t L k n => k = rm.cells ∧ n = rm.slots ∧ (∃ v, o = .returned v ∧ (Q v t.heap ∧ Fr n0 L)) ∧ CHr Z EL first.vm first.heap t.vm t.heap ∧ P2 t.vm) hM hfr hlo
    (fun m meth c A a Y hp => have hU : Z.Warmed39 A.U.vm := wtrans (s := s.setVm vm0) hZ Y.warmed
      ⟨by show (Cond.and _ .tt).before a A.U = true; rw [Cond.before_and, mv hU w4]; rfl, mv hU w4, mv hU w3, hp.2.2.1, hp.2.2.2⟩)
    (fun m meth c A a g mk Y hp => ⟨hp.1, wtrans (s := s.setVm vm0) hZ Y.warmed, hp.2.1, (CHv.at Y hZ hEL H).1, fun x hx => ⟨(CHv.at Y hZ hEL H).safe (hSf x hx).2 (hSf x hx).1, (hSf x hx).2⟩, hst s _ _ Y.warmed.wide hP1⟩) (fun _ _ _ _ _ _ _ _ _ => trivial)
    (fun _ _ _ _ ⟨v, L, h1, h2, h3, h4, h5⟩ => ⟨L, _, _, h4, rfl, rfl, ⟨v, h1, h2⟩, h3, h5⟩)
    (fun m meth c A a g mk v t L k n Y hp _ _ ⟨e1, e2, ⟨v', e3, e4⟩, e5, e6⟩ => by
      cases e3; subst e1 e2
      refine ⟨L, e4, rfl, rfl, rfl, (CHv.at Y hZ hEL H).trans ?_, e6⟩
      rw [← hp.2.1]; exact e5)
/-- BackS.of_freeW, the callee's code word handed in by what it says -/
theorem own_backS {l : Launch} {R : Room} {p : Program} {e : Env} {below : List Frame} {s : State} {sargs : Array Value} {y : MethodName} {len W maxL : Nat} {Pre : Pt → Array Value → Prop} {Post : Pt → Array Value → Option Value → Pt → Prop} {S : Spec} {P : Array Value → State → Prop}
    {K : Program → Env → List Frame → State → Array Value → Prop} {Q : Array Value → State → Outcome → State → Prop} (hM : MetFree l y S P K Q) (hf : S.room.frames + 1 ≤ R.frames) (hl : W + (maxL + 11) + S.room.locals ≤ R.locals)
    (hpre : ∀ m meth c (A : Pt) a mk, Stand p l e R s m sargs below meth c A.U A.locs A.cells A.slots → Pre A a → A.U.methodNamed? y = some mk → S.pre.before a A.U = true ∧ (∃ my cy, A.U.vm.method? mk = some my ∧ my.code = some cy ∧ cy.maxLocals = maxL) ∧ (Cond.initialized y.cls).before a A.U = true ∧ A.cells + S.room.cells ≤ R.cells ∧ A.slots + S.room.slots ≤ R.slots)
    (hP : ∀ m meth c (A : Pt) a (g : JFrame) mk, Stand p l e R s m sargs below meth c A.U A.locs A.cells A.slots → Pre A a → P a (A.U.calling g mk a) ∧ K p e (A.U.setTop g).frames (A.U.calling g mk a) a)
    (hQ : ∀ m meth c (A : Pt) a (g : JFrame) mk o t, Stand p l e R s m sargs below meth c A.U A.locs A.cells A.slots → Pre A a → Q a (A.U.calling g mk a) o t → ∃ v L k n, o = .returned v ∧ ReturnedEndW (A.U.calling g mk a) (.returned v) t L k n ∧ Post A a v ⟨(({ A.U with heap := t.heap, slotsUsed := t.slotsUsed } : State).setVm t.vm), A.locs ++ L, A.cells + k, A.slots + n⟩) :
    BackS l R p e below s sargs y len W Pre Post := fun m meth c A g ig mk a X hg hsize hdg hW hn hp => by
  subst hg
  obtain ⟨hS, ⟨my, cy, hmy, hcy, hml⟩, hini, hce, hsl⟩ := hpre _ meth c A a mk X hp hn
  obtain ⟨ky, hky, -⟩ := className_of_methodNamed hn
  have happ : S.appliesLoose y e.platform (A.U.calling g mk a) = true := Spec.appliesLoose_calling (g := g) X.here hdg hn hky (Cond.initialized_spec (findClass_of_methodNamed hn) hky hini) (X.room_calling (g := g) (R' := S.room) hsize hmy hcy hf (by rw [hml]; omega) hce hsl) hS
  obtain ⟨mid, hmid⟩ := X.here.above
  obtain ⟨o, t, hsteps, -, hend, hq⟩ := Steps.callFree hM p X.admits X.cas X.clock (acts := []) (show (A.U.setTop g).frames = (.java g :: mid) ++ below by rw [State.frames_setTop' g X.here.top, hmid]; rfl) happ (hP _ meth c A a g mk X hp).1 (hP _ meth c A a g mk X hp).2
  obtain ⟨v, L, k, n, rfl, hR, hpost⟩ := hQ _ meth c A a g mk o t X hp hq
  obtain ⟨-, hW2, hB2, e2, q⟩ := hR
  rw [State.frames_setTop' g X.here.top] at hend
  obtain ⟨c2, i2, len2, hc2, hd2, hf2⟩ := hend
  have hal : A.U.Warmed39 t.vm := hW2
  obtain rfl : c2 = c := Option.some.inj (hc2.symm.trans ((show t.code? g.method = A.U.code? g.method by rw [State.code?_eq, State.code?_eq, hal.alike.method?]).trans X.here.code))
  obtain rfl : len2 = len := by rw [hdg] at hd2; cases hd2; rfl
  obtain ⟨g0, hg0⟩ := Option.isSome_iff_exists.mp X.here.top
  obtain ⟨r, hr⟩ := State.topJava?_eq_some.mp hg0
  obtain ⟨th, hth, -⟩ := State.frames_cons hr
  have hsame : A.U.sameButNew ({ A.U with heap := t.heap, slotsUsed := t.slotsUsed } : State) L k n := ⟨by
    show ({ A.U with heap := t.heap, slotsUsed := t.slotsUsed } : State) = { A.U.setFrames A.U.frames with heap := t.heap, slotsUsed := t.slotsUsed }
    rw [State.setFrames_self hth], q⟩
  have ht : t = (({ A.U with heap := t.heap, slotsUsed := t.slotsUsed } : State).setVm t.vm).setTop { g with pc := g.pc + len2, stack := v.toList ++ g.stack } := by
    have e3 : t = ({ (A.U.calling g mk a).setFrames t.frames with heap := t.heap, slotsUsed := t.slotsUsed } : State).setVm t.vm := by
      have e4 : t = ({ t with vm := (A.U.calling g mk a).vm } : State).setVm t.vm := rfl
      rw [e2] at e4; exact e4
    refine e3.trans ?_
    rw [hf2, State.calling_eq X.here.top, State.setFrames_setFrames, State.setTop_of_frames _ (show (({ A.U with heap := t.heap, slotsUsed := t.slotsUsed } : State).setVm t.vm).frames = .java g0 :: r from hr), hr]; rfl
  obtain ⟨X', hS'⟩ := X.movedW (T₂ := (({ A.U with heap := t.heap, slotsUsed := t.slotsUsed } : State).setVm t.vm)) ((X.here.setHeapUsed t.heap t.slotsUsed).setVm hal.alike) X.tail rfl rfl hal hB2 hsame
  exact ⟨v, _, X', hS', hsame.2.1, hpost, ht ▸ hsteps⟩
/-- a contract of a body that may intern -/
def CtPH (l : Launch) (Z : State) (EL : List (String × Nat)) (Sf : List Addr) (P1 P2 : Vm → Prop) (y : MethodName) (yb : ByteArray) (yl : Nat) (yr : Option FieldType) (hs : List (Nat × Nat × Nat × Nat)) (ws : List Jvm.Cond) (rm : Room) (as' : Array Value) (h0 : Heap) (n0 : Nat) (Q : Option Value → Heap → Prop) : Prop :=
  MetFree l y (head1 (Cond.codeWith y yb yl yr hs :: ws) rm) (fun a U => a = as' ∧ Z.Warmed39 U.vm ∧ U.heap = h0 ∧ CHv Z EL U.vm h0 ∧ (∀ x ∈ Sf, Safe Z EL U.vm h0 x ∧ x < h0.size) ∧ P1 U.vm) (fun _ _ _ _ _ => True) (fun _ U o U' => ∃ v L, o = .returned v ∧ (Q v U'.heap ∧ Fr n0 L) ∧ CHr Z EL U.vm U.heap U'.vm U'.heap ∧ ReturnedEndW U o U' L rm.cells rm.slots ∧ P2 U'.vm)
theorem CtPH.of {P1 P2 : Vm → Prop} {y : MethodName} {yb : ByteArray} {yl : Nat} {yr : Option FieldType} {hs : List (Nat × Nat × Nat × Nat)} {ws : List Jvm.Cond} {rm : Room} {as' : Array Value} {h0 : Heap} {Q : Option Value → Heap → Prop} {L0 : Array Slot} (hp : plainFor y = true) (hef : ∀ m, entryFrame m as' yl = mkF m 0 L0 [])
    (body : ∀ (p : Program) (e : Env) (s : State) (m : MethodId) (below : List Frame) (meth : Method) (c : Code), Cx p meth c yb yl yr → meth.name = y.name → P1 s.vm → Go p l e rm s m as' below meth c Z y.cls n0 (Bw s Z EL Sf) (EnP s rm n0 Z EL P2 Q) h0 0 0 0 L0 []) : CtPH l Z EL Sf P1 P2 y yb yl yr hs ws rm as' h0 n0 Q := by
  refine MetFree.of_bodySF hp hisWith ?_
  intro p e s m args below meth c s₁ Bd hml0 hP hK
  obtain ⟨rfl, hZ, hh, hC, hSf, hP1⟩ := hP
  have X0 := Stand.of_body Bd
  have hb0 : Bw s Z EL Sf s.vm h0 := ⟨⟨s.heap.size, (State.WarmedH.refl s).since _, by rw [hh]; exact Nat.le_refl _⟩, by subst hh; exact CHr.refl hC, hSf⟩
  obtain ⟨s₂, o, L, h1, h2, h3, ⟨v, h4, h5, h6, h7⟩, h8⟩ := body p e s m below meth c ⟨Bd.exec, Bd.bytes, hml0, Bd.returns, Bd.notSynchronized⟩ (name_of_methodNamed Bd.named Bd.method).1 hP1 s.vm s₁ [] hZ (findClass_of_methodNamed Bd.named) hb0 X0 (Fr.nil n0) (by rw [← hh, Bd.state]; rfl)
  exact ⟨s₂, o, castTop (hef m) h1, h2, h3, v, L, h4, h5, h6, h7, h8⟩
theorem CtPH.pay {P1 P2 : Vm → Prop} (hst : ∀ (s : State) vm vm', (s.setVm vm).Warmed39 vm' → P1 vm → P1 vm') {y : MethodName} {yb : ByteArray} {yl : Nat} {yr : Option FieldType} {hs : List (Nat × Nat × Nat × Nat)} {rm : Room} {as' : Array Value} {ln W : Nat} {Q : Option Value → Heap → Prop} (hM : CtPH l Z EL Sf P1 P2 y yb yl yr hs [] rm as' h n0 Q) (hEL : EW Z a0 EL) (w4 : (Cond.codeWith y yb yl yr hs).before a0 Z = true) (w3 : (Cond.initialized y.cls).before a0 Z = true) (hfr : rm.frames + 1 ≤ R.frames) (hlo : W + (yl + 11) + rm.locals ≤ R.locals) :
    PayP l R p e below s args Z EL Sf P1 P2 y ln W as' h rm.cells rm.slots (fun v h' L => Q v h' ∧ Fr n0 L) := fun vm0 hZ H hSf hP1 =>
  own_backS (maxL := yl) hM hfr hlo
    (fun m meth c A a mk Y hp hn => have hU : Z.Warmed39 A.U.vm := wtrans (s := s.setVm vm0) hZ Y.warmed
      ⟨by show (Cond.and _ .tt).before a A.U = true; rw [Cond.before_and, mv hU w4]; rfl, by
        obtain ⟨m', my, cy, h1, h2, h3, -, h4, -⟩ := Cond.codeWith_spec (mv (args := a) hU w4)
        cases hn.symm.trans h1; exact ⟨my, cy, h2, h3, h4⟩, mv hU w3, hp.2.2.1, hp.2.2.2⟩)
    (fun m meth c A a g mk Y hp => ⟨⟨hp.1, wtrans (s := s.setVm vm0) hZ Y.warmed, hp.2.1, (CHv.at Y hZ hEL H).1, fun x hx => ⟨(CHv.at Y hZ hEL H).safe (hSf x hx).2 (hSf x hx).1, (hSf x hx).2⟩, hst s _ _ Y.warmed.wide hP1⟩, trivial⟩)
    (fun m meth c A a g mk o t Y hp ⟨v, L, h1, h2, h3, h4, h5⟩ => by
      subst h1
      refine ⟨v, L, _, _, rfl, h4, L, h2, rfl, rfl, rfl, (CHv.at Y hZ hEL H).trans ?_, h5⟩
      rw [← hp.2.1]; exact h3)
theorem Go.ldcWX (C : Cx p meth c bytes ml ret) {i n : Nat} {text : String} {vs : List Value} {z : Int32} (hd : decode bytes pc = .ok (.ldc i, 2)) (w : (Cond.stringLink own i text).before a0 Z = true) (wS : ∀ a ∈ Bundle.stringAtoms, a.before a0 Z = true) (hEL : EW Z a0 EL) (hmem : (own, i) ∈ EL)
    (ht : (∀ c ∈ text.toList, c.toNat < 256) ∧ text.toList.map (fun c => Value.int (Jvm.Lit.byteI c.toNat.toUInt16)) = vs) (hz : ¬ z < 0) (hl : z.toNatClampNeg = vs.length) (hn : 4 * text.toList.length ≤ n) (hbig : n ≤ 536870912) (hc : cells + 2 ≤ R.cells) (hl' : slots + (n + 4) ≤ R.slots) (hp : pc + 2 = pc')
    (K : ∀ h' a b k, Ext h h' → Exa Z h' a "java/lang/String" → Fld Z h' a "java/lang/String" "coder" "B" (.int 0) → Fld Z h' a "java/lang/String" "value" "[B" (.ref b) → Arv Z h' b k .byte z vs (.int 0) → (∀ x ∈ Sf, x ≠ a ∧ x ≠ b) → Go p l e R s m args below meth c Z own n0 (BwX s Z EL Sf (LV Z own i)) En h' (cells + 2) (slots + (n + 4)) pc' Ls (.ref a :: S)) :
    Go p l e R s m args below meth c Z own n0 (Bw s Z EL Sf) En h cells slots pc Ls S := fun vm0 T locs hZ hown hB X hF eT => by
  subst hp
  obtain ⟨⟨k0, q1, q2⟩, q3, q4⟩ := hB
  obtain ⟨a, T', h', k1, b, k, X', e', E, S1, S2, hZ', hown', E1, F1, F2, V1, -, -, hC, hLit, hne, st⟩ := ldcCH X C.1 hZ hown w wS eT q1 q2 hEL hmem q3.1 ht hz hl (g := mkF m pc Ls S) rfl (hb C.2.1 hd) hn hbig hc hl'
  obtain ⟨s₂, o, L, k1, k2⟩ := K h' a b k E E1 F1 F2 V1 (fun x hx => hne x (hC.safe (q4 x hx).2 (q4 x hx).1)) T'.vm T' locs hZ' hown' ⟨⟨⟨k1, S1, S2⟩, q3.trans hC, fun x hx => ⟨hC.safe (q4 x hx).2 (q4 x hx).1, Nat.lt_of_lt_of_le (q4 x hx).2 E.1⟩⟩, a, hLit⟩ X' hF e'
  exact ⟨s₂, o, L, st _ k1, k2⟩
theorem Go.ldcOX (C : Cx p meth c bytes ml ret) {i n : Nat} {text : String} (hd : decode bytes pc = .ok (.ldc i, 2)) (w : (Cond.stringLink own i text).before a0 Z = true) (wS : ∀ a ∈ Bundle.stringAtoms, a.before a0 Z = true) (hEL : EW Z a0 EL)
    (hn : 4 * text.toList.length ≤ n) (hbig : n ≤ 536870912) (hc : cells + 2 ≤ R.cells) (hl' : slots + (n + 4) ≤ R.slots) (hp : pc + 2 = pc')
    (K : ∀ h' a, Ext h h' → Go p l e R s m args below meth c Z own n0 (BwX s Z EL Sf (LV Z own i)) En h' (cells + 2) (slots + (n + 4)) pc' Ls (.ref a :: S)) :
    Go p l e R s m args below meth c Z own n0 (Bw s Z EL Sf) En h cells slots pc Ls S := fun vm0 T locs hZ hown hB X hF eT => by
  subst hp
  obtain ⟨⟨k0, q1, q2⟩, q3, q4⟩ := hB
  obtain ⟨a, T', h', k1, X', e', E, S1, S2, hZ', hown', hC, hLit, st⟩ := ldcOH X C.1 hZ hown w wS eT q1 q2 hEL q3.1 (g := mkF m pc Ls S) rfl (hb C.2.1 hd) hn hbig hc hl'
  obtain ⟨s₂, o, L, k1, k2⟩ := K h' a E T'.vm T' locs hZ' hown' ⟨⟨⟨k1, S1, S2⟩, q3.trans hC, fun x hx => ⟨hC.safe (q4 x hx).2 (q4 x hx).1, Nat.lt_of_lt_of_le (q4 x hx).2 E.1⟩⟩, a, hLit⟩ X' hF e'
  exact ⟨s₂, o, L, st _ k1, k2⟩
theorem safe0 {h : Heap} {x : Addr} : Safe Z [] vm h x := fun ⟨_, hp, _⟩ => nomatch hp
theorem Bw.any {ws : List Addr} (K : Keep h h' ws) (q : Bw s Z [] [] vm h) : Bw s Z [] [] vm h' := by
  obtain ⟨⟨k0, q1, q2⟩, q3, q4⟩ := q
  exact ⟨⟨k0, q1, Nat.le_trans q2 K.1⟩, q3.trans (CHr.keep K (fun x hx => safe0) q3.1), fun x hx => nomatch hx⟩
theorem BwX.any {X : Vm → Prop} {ws : List Addr} (K : Keep h h' ws) (q : BwX s Z [] [] X vm h) : BwX s Z [] [] X vm h' := ⟨q.1.any K, q.2⟩
theorem bw0N : ∀ vm h', Ext h h' → h.size < h'.size → Bw s Z [] [] vm h → Bw s Z [] [] vm h' := fun vm h' E hl q => q.ext E
theorem declOf {s : State} {args : Array Value} {y : MethodName} {yb : ByteArray} {yl : Nat} {yr : Option FieldType} (w1 : (Cond.instanceMethod y).before args s = true) (w2 : (Cond.code y yb yl yr).before args s = true) : (Cond.declares y).before args s = true := by
  obtain ⟨mk, my, h1, h2, h3, -⟩ := Cond.instanceMethod_spec w1
  obtain ⟨m2, cM, q1, -, -, -, -, -, -, hsig⟩ := Cond.code_spec h1 w2
  cases h2.symm.trans q1
  simp [Cond.before, Cond.holds, Cond.value, h1, h2, h3, hsig]
theorem Go.ldcAg (C : Cx p meth c bytes ml ret) {i : Nat} {text : String} (hd : decode bytes pc = .ok (.ldc i, 2)) (w : (Cond.stringLink own i text).before a0 Z = true) (hL : ∀ vm h, Bs vm h → LV Z own i vm) (hp : pc + 2 = pc')
    (K : ∀ a, Go p l e R s m args below meth c Z own n0 Bs En h cells slots pc' Ls (.ref a :: S)) :
    Go p l e R s m args below meth c Z own n0 Bs En h cells slots pc Ls S := fun vm0 T locs hZ hown hB X hF eT => by
  subst hp
  obtain ⟨a, q⟩ := hL _ _ hB
  obtain ⟨s₂, o, L, k1, k2⟩ := K a vm0 T locs hZ hown hB X hF eT
  exact ⟨s₂, o, L, ldcAgain X C.1 hZ hown w (show Lit (s.setVm vm0) own i a from q) (g := mkF m pc Ls S) rfl (hb C.2.1 hd) _ k1, k2⟩
theorem Go.baseX {o : String} {i : Nat} (hL : LV Z o i s.vm) (K : Go p l e R s m args below meth c Z own n0 (BwX s Z EL Sf (LV Z o i)) En h cells slots pc Ls S) : Go p l e R s m args below meth c Z own n0 (Bw s Z EL Sf) En h cells slots pc Ls S := fun vm0 T locs hZ hown hB X hF eT =>
  K vm0 T locs hZ hown ⟨hB, by obtain ⟨⟨k0, q1, -⟩, -⟩ := hB; exact LV.stays (s := s) hL q1.1⟩ X hF eT
theorem Go.callVP (C : Cx p meth c bytes ml ret) {i : Nat} {C0 : String} {b : Addr} {y z : MethodName} {argsL rest : List Value} {W kc ks : Nat} {Q : Option Value → Heap → List Loc → Prop} {Sf' : List Addr} {P1 P2 X Y : Vm → Prop}
    (hd : decode bytes pc = .ok (.invokevirtual i, 3)) (w1 : (Cond.methodLink own i y).before a0 Z = true) (w2 : (Cond.declares y).before a0 Z = true) (w3 : (Cond.selects C0 y z).before a0 Z = true) (w4 : (Cond.instanceMethod z).before a0 Z = true) (hnf : ∀ st : State, Z.Warmed39 st.vm → NotFace st y) (hy : y.cls ≠ "java/lang/invoke/MethodHandle" ∧ y.cls ≠ "java/lang/invoke/VarHandle") (E : Exa Z h b C0)
    (hS : S = argsL.reverse ++ .ref b :: rest) (hlen : ∀ sig, parseMethodDescriptor y.desc = some sig → argsL.length = sig.parameters.length) (hsz : Ls.size = ml) (hW : (rest.map fun v => v.category).sum ≤ W) (hK : PayP l R p e below s args Z EL Sf' P1 P2 z 3 W (.ref b :: argsL).toArray h kc ks Q) (hSf : ∀ x ∈ Sf', x ∈ Sf) (hX : ∀ vm, X vm → P1 vm) (hY : ∀ (s : State) vm vm', (s.setVm vm).Warmed39 vm' → X vm → P2 vm' → Y vm')
    (hQ : ∀ v h' L, Q v h' L → Fr n0 L) (hce : cells + kc ≤ R.cells) (hsl : slots + ks ≤ R.slots) (hp : pc + 3 = pc')
    (K : ∀ v h' L, Q v h' L → h.size ≤ h'.size → Go p l e R s m args below meth c Z own n0 (BwX s Z EL Sf Y) En h' (cells + kc) (slots + ks) pc' Ls (v.toList ++ rest)) :
    Go p l e R s m args below meth c Z own n0 (BwX s Z EL Sf X) En h cells slots pc Ls S := fun vm0 T locs hZ hown hB0 X hF eT => by
  subst hp hS
  obtain ⟨hB, hXv⟩ := hB0
  obtain ⟨cq, kq, qa, qb, qc⟩ := isOf (s := s.setVm vm0) hZ eT E
  obtain ⟨v, vm1, ⟨T', L', k', n'⟩, -, X', S', g', ⟨Lc, hq, l1, y1, z1, hC, hP2⟩, st⟩ := X.virtualBackS C.1 (y := y) (z := z) hown (mvT (s := s.setVm vm0) hZ w1) (mvT (s := s.setVm vm0) hZ w2) (hnf (s.setVm vm0) hZ) (mvT (s := s.setVm vm0) hZ w3) (mvT (s := s.setVm vm0) hZ w4) hy (hK vm0 hZ hB.2.1.1 (fun x hx => hB.2.2 x (hSf x hx)) (hX _ hXv)) qa qc (g := mkF m pc Ls (argsL.reverse ++ .ref b :: rest)) rfl (by rw [C.2.2.1]; exact hsz) (Steps.refl _) (argsL := argsL) (rest := rest) hlen rfl (by show 2 * 0 + _ ≤ _; omega) (hb C.2.1 hd) (fun _ _ => ⟨rfl, eT, hce, hsl⟩)
  dsimp only [Pt.U, Pt.locs, Pt.cells, Pt.slots] at X' S' g' l1 y1 z1 hC hP2 st hq
  subst l1 y1 z1 eT
  obtain ⟨s₂, o, L, k1, k2⟩ := K v T'.heap Lc hq g' T'.vm T' _ (State.Warmed39.trans (t := s.setVm vm0) hZ S'.1) (by rw [S'.1.alike.findClass]; exact hown) ⟨hB.since S' g' hC, hY s _ _ S'.1 hXv hP2⟩ X' (Fr.app hF (hQ _ _ _ hq)) rfl
  exact ⟨s₂, o, L, st.trans k1, k2⟩
theorem retWX {o' : String} {i' : Nat} (C : Cx p meth c bytes ml ret) {v : Option Value} {Q : Option Value → Heap → Prop} (hv : ret = none → v = none) (hc : cells ≤ R.cells) (hl : slots ≤ R.slots) (hQ : Q v h)
    (st : ∀ (T : State) (locs : List Loc) (vm0 : Vm) (fs : List Frame), Stand p l e R (s.setVm vm0) m args below meth c T locs cells slots → (∀ (f : JFrame) (acts : List Action), f.method = m → f.locked = none → f.entered = [] → (doReturn e (T.setTop f) acts v).1 = T.setFrames fs) → Steps p.tables e below (T.setTop (mkF m pc Ls S)) (T.setFrames fs)) (hEL : EW Z a0 EL) :
    Go p l e R s m args below meth c Z own n0 (BwX s Z EL Sf (LV Z o' i')) (EnP s R n0 Z EL (LV Z o' i') Q) h cells slots pc Ls S := fun vm0 T locs hZ hown hB0 X hF eT => by
  obtain ⟨hB, hL⟩ := hB0
  obtain ⟨⟨k0, q1, q2⟩, q3, q4⟩ := hB
  obtain ⟨fs, hr, hrun, hended, hREW⟩ := X.leaveW q1 (by rw [eT]; exact q2) (v := v) (fun q => hv (C.2.2.2.1 ▸ q)) C.2.2.2.2
  obtain ⟨g1, g2, g3, g4⟩ := hREW
  subst eT
  exact ⟨_, _, locs, st T locs vm0 fs X hr, hrun, hended, ⟨v, rfl, ⟨hQ, hF⟩, q3.trans (show CHr Z EL vm0 T.heap T.vm T.heap from CHv.at X hZ hEL q3.1), g1, g2, g3, g4.mono hc hl⟩, LV.stays (s := s) hL X.warmed.wide⟩
theorem Go.retAWX {o' : String} {i' : Nat} {t : FieldType} (C : Cx p meth c bytes ml (some t)) (hEL : EW Z a0 EL) (ht : t.isReference = true) {v : Value} {Q : Option Value → Heap → Prop} (hd : decode bytes pc = .ok (.areturn, 1)) (hv : v.isRef = true) (hc : cells ≤ R.cells) (hl : slots ≤ R.slots) (hQ : Q (some v) h) : Go p l e R s m args below meth c Z own n0 (BwX s Z EL Sf (LV Z o' i')) (EnP s R n0 Z EL (LV Z o' i') Q) h cells slots pc Ls (v :: S) :=
  retWX C (fun q => nomatch q) hc hl hQ (fun T locs vm0 fs X hr => Jvm.RoadKit.retOut X C.1 C.2.2.2.1 (by cases v <;> simp [Value.isRef] at hv <;> cases t <;> simp [FieldType.isReference] at ht <;> rfl) (Or.inr (Or.inr (Or.inr (Or.inr ⟨rfl, ht, hv⟩)))) (hb C.2.1 hd) hr) hEL
theorem Go.endX {X : Vm → Prop} {Q : Option Value → Heap → Prop} (K : Go p l e R s m args below meth c Z own n0 (Bw s Z EL Sf) (EnW s R n0 Z EL Q) h cells slots pc Ls S) : Go p l e R s m args below meth c Z own n0 (BwX s Z EL Sf X) (EnP s R n0 Z EL TV Q) h cells slots pc Ls S := fun vm0 T locs hZ hown hB X hF eT => by
  obtain ⟨s₂, o', L, k1, k2, k3, k4⟩ := K vm0 T locs hZ hown hB.1 X hF eT
  exact ⟨s₂, o', L, k1, k2, k3, k4, trivial⟩
theorem Go.cp (C : Cx p meth c bytes ml ret) {i : Nat} {a b : Addr} {k k' : ClassId} {ty : FieldType} {z z' sp dp nn : Int32} {vs vd us rest : List Value} {dv dd : Value} (hd : decode bytes pc = .ok (.invokestatic i, 3))
    (w1 : (Cond.methodLink own i Jvm.Stand.acN).before a0 Z = true) (w2 : (Cond.native Jvm.Stand.acN).before a0 Z = true) (w3 : (Cond.static Jvm.Stand.acN).before a0 Z = true) (w4 : (Cond.initialized "java/lang/System").before a0 Z = true)
    (A : Arv Z h a k ty z vs dv) (B : Arv Z h b k' ty z' vd dd) (hty : refKind ty = false) (h1 : ¬ sp < 0) (h2 : ¬ dp < 0) (h3 : ¬ nn < 0) (h4 : sp.toNatClampNeg + nn.toNatClampNeg ≤ z.toNatClampNeg) (h5 : dp.toNatClampNeg + nn.toNatClampNeg ≤ z'.toNatClampNeg)
    (hus : us = (List.range nn.toNatClampNeg).map fun i => vs.getD (sp.toNatClampNeg + i) dv) (hl : dp.toNatClampNeg + nn.toNatClampNeg ≤ vd.length) (ge : n0 ≤ b) (hsz : Ls.size = ml) (hf : 1 ≤ R.frames) {W : Nat} (hW : (rest.map fun v => v.category).sum ≤ W) (hlo : W + (nativeFrameWords "java/lang/System" "arraycopy" 5 + 11) ≤ R.locals)
    {Bs' : Vm → Heap → Prop} (hB : ∀ vm h', Keep h h' [b] → Bs vm h → Bs' vm h') (hp : pc + 3 = pc')
    (K : ∀ h', Keep h h' [b] → Arv Z h' b k' ty z' (vd.take dp.toNatClampNeg ++ us ++ vd.drop (dp.toNatClampNeg + nn.toNatClampNeg)) dd → Go p l e R s m args below meth c Z own n0 Bs' En h' cells slots pc' Ls rest) :
    Go p l e R s m args below meth c Z own n0 Bs En h cells slots pc Ls (.int nn :: .int dp :: .ref b :: .int sp :: .ref a :: rest) := fun vm0 T locs hZ hown hBs X hF eT => by
  subst hp
  obtain ⟨T', h', L, X', e', hF', K', V', st⟩ := cpA (Z := Z) X C.1 hZ hown w1 w2 w3 w4 eT A B (Or.inl ⟨rfl, hty⟩) h1 h2 h3 h4 h5 hus hl hF ge (g := mkF m pc Ls (.int nn :: .int dp :: .ref b :: .int sp :: .ref a :: rest)) rfl (by rw [C.2.2.1]; exact hsz) rfl (hb C.2.1 hd) hf (W := W) (by show 2 * 0 + _ ≤ _; omega) hlo
  obtain ⟨s₂, o, L, k1, k2⟩ := K h' K' V' vm0 T' L hZ hown (hB _ _ K' hBs) X' hF' e'
  exact ⟨s₂, o, L, st _ k1, k2⟩
theorem Go.callU (C : Cx p meth c bytes ml ret) {i : Nat} {a : Addr} {K0 : String} {y : MethodName} {yb : ByteArray} {yl : Nat} {yr : Option FieldType} {argsL rest : List Value} {W kc ks : Nat} {Q : Option Value → Heap → List Loc → Prop}
    (hd : decode bytes pc = .ok (.invokespecial i, 3)) (w1 : (Cond.methodLink own i y).before a0 Z = true) (w2 : (Cond.sameMethod y.cls y.cls y.name y.desc).before a0 Z = true) (w3 : (Cond.instanceMethod y).before a0 Z = true) (w4 : (Cond.superclass own y.cls).before a0 Z = true) (hn : y.name ≠ "<init>") (wc : (Cond.code y yb yl yr).before a0 Z = true) (F : Ins Z h a K0 true)
    (hS : S = argsL.reverse ++ .ref a :: rest) (hlen : ∀ sig, parseMethodDescriptor y.desc = some sig → argsL.length = sig.parameters.length) (hsz : Ls.size = ml) (hW : (rest.map fun v => v.category).sum ≤ W) (hK : Pay l R p e below s args Z y 3 W (.ref a :: argsL).toArray h kc ks Q)
    (hQ : ∀ v h' L, Q v h' L → Fr n0 L) (hce : cells + kc ≤ R.cells) (hsl : slots + ks ≤ R.slots) {Bs' : Vm → Heap → Prop} (hB : ∀ vm v h' L, Q v h' L → Bs vm h → Bs' vm h') (hp : pc + 3 = pc')
    (K : ∀ v h' L, Q v h' L → Go p l e R s m args below meth c Z own n0 Bs' En h' (cells + kc) (slots + ks) pc' Ls (v.toList ++ rest)) :
    Go p l e R s m args below meth c Z own n0 Bs En h cells slots pc Ls S := fun vm0 T locs hZ hown hBs X hF eT => by
  subst hp hS
  obtain ⟨v, vm1, ⟨T', L', k', n'⟩, -, X', ⟨Lc, hq, l1, y1, z1⟩, st⟩ := superBack (Z := Z) X C.1 hZ hown w1 w2 w3 w4 hn (hK vm0 hZ) eT F (g := mkF m pc Ls (argsL.reverse ++ .ref a :: rest)) rfl (by rw [C.2.2.1]; exact hsz) wc (argsL := argsL) (rest := rest) hlen rfl (by show 2 * 0 + _ ≤ _; omega) (hb C.2.1 hd) (fun _ _ => ⟨rfl, eT, hce, hsl⟩)
  dsimp only [Pt.U, Pt.locs, Pt.cells, Pt.slots] at X' l1 y1 z1 st hq
  subst l1 y1 z1
  obtain ⟨s₂, o, L, k1, k2⟩ := K v T'.heap Lc hq vm0 T' _ hZ hown (hB _ _ _ _ hq hBs) X' (Fr.app hF (hQ _ _ _ hq)) rfl
  exact ⟨s₂, o, L, st.trans k1, k2⟩
theorem Go.callI (C : Cx p meth c bytes ml ret) {i count : Nat} {C0 : String} {b : Addr} {y z : MethodName} {argsL rest : List Value} {W kc ks : Nat} {Q : Option Value → Heap → List Loc → Prop}
    (hd : decode bytes pc = .ok (.invokeinterface i count, 5)) (w1 : (Cond.methodLink own i y).before a0 Z = true) (w2 : (Cond.declares y).before a0 Z = true) (wf : (Cond.interfaceMethod y.cls y.cls y.name y.desc).before a0 Z = true) (w3 : (Cond.selects C0 y z).before a0 Z = true) (w4 : (Cond.instanceMethod z).before a0 Z = true) (w5 : (Cond.publicMethod z).before a0 Z = true) (w6 : (Cond.unhidden C0 y.name y.desc).before a0 Z = true) (w7 : (Cond.castable C0 y.cls).before a0 Z = true) (hy : y.cls ≠ "java/lang/invoke/MethodHandle" ∧ y.cls ≠ "java/lang/invoke/VarHandle") (E : Exa Z h b C0)
    (hS : S = argsL.reverse ++ .ref b :: rest) (hlen : ∀ sig, parseMethodDescriptor y.desc = some sig → argsL.length = sig.parameters.length) (hsz : Ls.size = ml) (hW : (rest.map fun v => v.category).sum ≤ W) (hK : Pay l R p e below s args Z z 5 W (.ref b :: argsL).toArray h kc ks Q)
    (hQ : ∀ v h' L, Q v h' L → Fr n0 L) (hce : cells + kc ≤ R.cells) (hsl : slots + ks ≤ R.slots) {Bs' : Vm → Heap → Prop} (hB : ∀ vm v h' L, Q v h' L → Bs vm h → Bs' vm h') (hp : pc + 5 = pc')
    (K : ∀ v h' L, Q v h' L → Go p l e R s m args below meth c Z own n0 Bs' En h' (cells + kc) (slots + ks) pc' Ls (v.toList ++ rest)) :
    Go p l e R s m args below meth c Z own n0 Bs En h cells slots pc Ls S := fun vm0 T locs hZ hown hBs X hF eT => by
  subst hp hS
  obtain ⟨cq, kq, qa, qb, qc⟩ := isOf (s := s.setVm vm0) hZ eT E
  obtain ⟨v, vm1, ⟨T', L', k', n'⟩, -, X', ⟨Lc, hq, l1, y1, z1⟩, st⟩ := X.interfaceBack C.1 (xi := y) (y := z) hown (mvT (s := s.setVm vm0) hZ w1) (mvT (s := s.setVm vm0) hZ w2) (mvT (s := s.setVm vm0) hZ wf (by simp [Cond.onTables, Cond.keepsFace, Cond.keeps, Cond.faceAtom, hy.1, hy.2])) (mvT (s := s.setVm vm0) hZ w3) (mvT (s := s.setVm vm0) hZ w4) (mvT (s := s.setVm vm0) hZ w5) (mvT (s := s.setVm vm0) hZ w6) (mvT (s := s.setVm vm0) hZ w7) hy (hK vm0 hZ) qa qb qc (g := mkF m pc Ls (argsL.reverse ++ .ref b :: rest)) rfl (by rw [C.2.2.1]; exact hsz) (Steps.refl _) (argsL := argsL) (rest := rest) hlen rfl (by show 2 * 0 + _ ≤ _; omega) (hb C.2.1 hd) (fun _ _ => ⟨rfl, eT, hce, hsl⟩)
  dsimp only [Pt.U, Pt.locs, Pt.cells, Pt.slots] at X' l1 y1 z1 st hq
  subst l1 y1 z1
  obtain ⟨s₂, o, L, k1, k2⟩ := K v T'.heap Lc hq vm0 T' _ hZ hown (hB _ _ _ _ hq hBs) X' (Fr.app hF (hQ _ _ _ hq)) rfl
  exact ⟨s₂, o, L, st.trans k1, k2⟩
theorem Go.ldcwInt (C : Cx p meth c bytes ml ret) {i : Nat} {v : Int32} (hd : decode bytes pc = .ok (.ldc_w i, 3)) (w : (Cond.constant own i v).before a0 Z = true) (hp : pc + 3 = pc') (K : Go p l e R s m args below meth c Z own n0 Bs En h cells slots pc' Ls (.int v :: S)) : Go p l e R s m args below meth c Z own n0 Bs En h cells slots pc Ls S := fun vm0 T locs hZ hown hBs X hF eT => by
  subst hp
  obtain ⟨s₂, o, L, k1, k2⟩ := K vm0 T locs hZ hown hBs X hF eT
  exact ⟨s₂, o, L, X.ldcwInt C.1 hown (mvT (s := s.setVm vm0) hZ w) (g := mkF m pc Ls S) rfl (hb C.2.1 hd) _ k1, k2⟩
/-- a method's class is no interface, for another method of it is none's -/
theorem nfSame {s : State} {y y' : MethodName} {args : Array Value} (hc : y'.cls = y.cls) (hd : (Cond.declares y').before args s = true) (hn : NotFace s y') : NotFace s y := fun r0 h0 => by
  obtain ⟨r, m, h1, -⟩ := Cond.declares_spec hd
  obtain ⟨k, h2, h3⟩ := hn r h1
  have e1 := findClass_of_methodNamed h0
  have e2 := findClass_of_methodNamed h1
  rw [hc] at e2
  have e3 : r0.cls = r.cls := Option.some.inj (e1.symm.trans e2)
  exact ⟨k, by rw [e3]; exact h2, h3⟩
theorem sameOf {s : State} {y : MethodName} {args : Array Value} (hd : (Cond.declares y).before args s = true) (hn : NotFace s y) (hy : y.cls ≠ "java/lang/invoke/MethodHandle" ∧ y.cls ≠ "java/lang/invoke/VarHandle") : (Cond.sameMethod y.cls y.cls y.name y.desc).before args s = true := by
  obtain ⟨r, m, h1, -⟩ := Cond.declares_spec hd
  obtain ⟨k, h2, h3⟩ := hn r h1
  have e1 := findClass_of_methodNamed h1
  have e2 := State.methodFound?_of_named h1 hy
  have e3 : s.methodNamed? ⟨y.cls, y.name, y.desc⟩ = some r := h1
  simp only [Cond.before, Cond.holds, Cond.value, e1, e2, e3, h2]
  simp [h3]
end Wide
end Jvm.Own


/- laws to paste: Road.backV, Road.lenW, Road.chN, Road.codOf (cut by pick.py; bodies as the Statement names them) -/
namespace Jvm.Pilot.@@N@@
namespace StrChars
open Jvm Sem ClassFile Op Lib Jvm.Stand Jvm.Free.XT Jvm.Free.ALB Jvm.Free.JM Jvm.Free
open Jvm.Lib.Cold (StaticIs)
/-- a char array whose places are chars -/
def Ch (a : Addr) (A : Cell) (U : State) : Prop := Arr .char a A U ∧ Typed .char A
theorem Ch.mv {a : Addr} {A : Cell} {U U' : State} (h : Ch a A U) (hal : U.vm.Alike U'.vm) (hh : U'.heap = U.heap) : Ch a A U' := ⟨h.1.mv hal hh, h.2⟩
theorem Ch.keep {a : Addr} {A : Cell} {U U' : State} (h : Ch a A U) (hal : U.vm.Alike U'.vm) (hk : U'.heap[a]? = some A) : Ch a A U' := ⟨h.1.keep hal hk, h.2⟩
/-- what place i of a char[]'s cell holds -/
def cv (A : Cell) (i : Nat) : Int32 := match A.slots[i]? with | some (.int x) => x | _ => 0
theorem Ch.get {a : Addr} {A : Cell} {U : State} (h : Ch a A U) {i : Nat} (hi : i < A.slots.size) : A.slots[i]? = some (.int (cv A i)) := by
  have e := Array.getElem?_eq_getElem hi
  have f := h.2 i _ e
  unfold cv; rw [e]
  generalize A.slots[i] = v at f
  cases v <;> simp [fits] at f ⊢
/-- the byte that i2b leaves of a char -/
def lo8 (x : Int32) : Int32 := x.toInt8.toInt32
theorem fits_lo8 (y : Int32) : fits .byte (.int (lo8 y)) = true := by
  have h1 := y.toInt8.le_toInt
  have h2 := y.toInt8.toInt_lt
  simp only [lo8, fits, Bool.and_eq_true, decide_eq_true_eq, Int32.le_iff_toInt_le, Int8.toInt_toInt32, show (-128 : Int32).toInt = -128 from by decide, show (127 : Int32).toInt = 127 from by decide]
  omega
/-- A' is A but that each place j of lo .. hi - 1 holds f j -/
def Laid (A A' : Cell) (lo hi : Nat) (f : Nat → Value) : Prop := A'.cls = A.cls ∧ A'.vm = A.vm ∧ A'.slots.size = A.slots.size ∧ ∀ i, A'.slots[i]? = if lo ≤ i ∧ i < hi then some (f i) else A.slots[i]?
theorem Laid.zero (A : Cell) (lo : Nat) (f : Nat → Value) : Laid A A lo (lo + 0) f := ⟨rfl, rfl, rfl, fun i => by rw [if_neg (by omega)]⟩
theorem Laid.step {A Ak : Cell} {lo k : Nat} {f : Nat → Value} {v : Value} (h : Laid A Ak lo k f) (hlo : lo ≤ k) (hk : k < Ak.slots.size) (hv : v = f k) : Laid A (Ak.setSlot k v) lo (k + 1) f := by
  refine ⟨h.1, h.2.1, by simpa [Cell.setSlot] using h.2.2.1, fun i => ?_⟩
  by_cases e : k = i
  · subst e; rw [Cell.slots_setSlot_self v hk, if_pos (by omega), hv]
  · rw [Cell.slots_setSlot_ne v e, h.2.2.2 i]
    by_cases q : lo ≤ i ∧ i < k
    · rw [if_pos q, if_pos (by omega)]
    · rw [if_neg q, if_neg (by omega)]
def U16 : String := "java/lang/StringUTF16"
namespace Cmp5
def yN : MethodName := ⟨"java/lang/StringUTF16", "compress", "([CI[BII)I"⟩
abbrev yB : ByteArray := jdk_52_method_21_code
theorem d0 : decode yB 0 = .ok (.iconst 0, 1) := by decide +kernel
theorem d1 : decode yB 1 = .ok (.istore 5, 2) := by decide +kernel
theorem d3 : decode yB 3 = .ok (.iload 5, 2) := by decide +kernel
theorem d5 : decode yB 5 = .ok (.iload 4, 2) := by decide +kernel
theorem d7 : decode yB 7 = .ok (.if_icmp (.ge) 37, 3) := by decide +kernel
theorem d10 : decode yB 10 = .ok (.aload_n 0, 1) := by decide +kernel
theorem d11 : decode yB 11 = .ok (.iload_n 1, 1) := by decide +kernel
theorem d12 : decode yB 12 = .ok (.caload, 1) := by decide +kernel
theorem d13 : decode yB 13 = .ok (.istore 6, 2) := by decide +kernel
theorem d15 : decode yB 15 = .ok (.iload 6, 2) := by decide +kernel
theorem d17 : decode yB 17 = .ok (.sipush 255, 3) := by decide +kernel
theorem d20 : decode yB 20 = .ok (.if_icmp (.le) 6, 3) := by decide +kernel
theorem d26 : decode yB 26 = .ok (.aload_n 2, 1) := by decide +kernel
theorem d27 : decode yB 27 = .ok (.iload_n 3, 1) := by decide +kernel
theorem d28 : decode yB 28 = .ok (.iload 6, 2) := by decide +kernel
theorem d30 : decode yB 30 = .ok (.i2b, 1) := by decide +kernel
theorem d31 : decode yB 31 = .ok (.bastore, 1) := by decide +kernel
theorem d32 : decode yB 32 = .ok (.iinc 1 1, 3) := by decide +kernel
theorem d35 : decode yB 35 = .ok (.iinc 3 1, 3) := by decide +kernel
theorem d38 : decode yB 38 = .ok (.iinc 5 1, 3) := by decide +kernel
theorem d41 : decode yB 41 = .ok (.goto (-38), 3) := by decide +kernel
theorem d44 : decode yB 44 = .ok (.iload 4, 2) := by decide +kernel
theorem d46 : decode yB 46 = .ok (.ireturn, 1) := by decide +kernel
def site : List Cond := []
def tab : Cond := tabOf yN yB 7 (some .int) site
def P (b : Addr) (A : Cell) (d : Addr) (B : Cell) (o q len : Nat) (args : Array Value) (s : State) : Prop := args = #[.ref b, .int (Int32.ofNat o), .ref d, .int (Int32.ofNat q), .int (Int32.ofNat len)] ∧ Ch b A s ∧ Arr .byte d B s ∧ b ≠ d ∧ o + len ≤ A.slots.size ∧ q + len ≤ B.slots.size ∧ ∀ i, i < len → ¬ 255 < cv A (o + i)
def E (b : Addr) (A : Cell) (d : Addr) (B : Cell) (o q len : Nat) (r : Option Value) (s u : State) : Prop := r = some (.int (Int32.ofNat len)) ∧ ∃ B', Put d B' s u ∧ Laid B B' q (q + len) (fun j => Value.int (lo8 (cv A (o + (j - q)))))
/-- no char of the range above 255: len; the places written hold each char's low byte -/
theorem law (l : Launch) (b : Addr) (A : Cell) (d : Addr) (B : Cell) (o q len : Nat) : Law l yN 5 5 0 0 yB 7 (some .int) site (P b A d B o q len) (E b A d B o q len) (copyLocs d q len) 0 0 := by
  refine Law.of_walk (plainFor_of_name (by decide +kernel)) (by decide +kernel) (by decide +kernel) (by decide) (fun _ _ h => by rw [h.1]; rfl) (fun _ U U' hal hh h => ⟨h.1, h.2.1.mv hal hh, h.2.2.1.mv hal hh, h.2.2.2⟩) (fun r U U' V V' h1 hal h2 h => ⟨h.1, h.2.elim fun B' q => ⟨B', q.1.mv h1 h2, q.2⟩⟩) ?_
  intro p e s m args below meth c s₁ X0 hexec hbytes hml hret hlk hnm hown hh0 W hP
  obtain ⟨rfl, hA, hB, hne, l1, l2, hp⟩ := hP
  have c1 : Steps p.tables e below (s₁.setTop (entryFrame m #[.ref b, .int (Int32.ofNat o), .ref d, .int (Int32.ofNat q), .int (Int32.ofNat len)] 7)) (s₁.setTop (mkF m 0 #[.val (.ref b), .val (.int (Int32.ofNat o)), .val (.ref d), .val (.int (Int32.ofNat q)), .val (.int (Int32.ofNat len)), .unset, .unset] [])) := entry rfl
  have hA0 := hA.1.mv X0.warmed.alike hh0
  have hB0 := hB.mv X0.warmed.alike hh0
  have a31 := hA.1.2.2.2
  have c2 : Steps p.tables e below (s₁.setTop (entryFrame m #[.ref b, .int (Int32.ofNat o), .ref d, .int (Int32.ofNat q), .int (Int32.ofNat len)] 7)) (s₁.setTop (mkF m 3 #[.val (.ref b), .val (.int (Int32.ofNat o)), .val (.ref d), .val (.int (Int32.ofNat q)), .val (.int (Int32.ofNat len)), .val (.int 0), .unset] [])) := c1.trans (by
    refine iconstV X0.here hexec rfl 0 (hb hbytes d0) (by decide) ?_
    refine XS.istore X0.here hexec rfl (hb hbytes d1) rfl rfl ?_
    exact Steps.refl _)
  have loop : ∀ (r i : Nat), i + r = len → ∀ (z : Slot), (z = .unset ∨ ∃ w, z = .val w ∧ w.category = 1) → ∀ (Tl : State) (Bk : Cell), Stand p l e { frames := 0, locals := 0, cells := 0, slots := 0 } s m #[.ref b, .int (Int32.ofNat o), .ref d, .int (Int32.ofNat q), .int (Int32.ofNat len)] below meth c Tl ([] ++ copyLocs d q i) 0 0 → Put d Bk s₁ Tl → Laid B Bk q (q + i) (fun j => Value.int (lo8 (cv A (o + (j - q))))) →
      Steps p.tables e below (s₁.setTop (entryFrame m #[.ref b, .int (Int32.ofNat o), .ref d, .int (Int32.ofNat q), .int (Int32.ofNat len)] 7)) (Tl.setTop (mkF m 3 #[.val (.ref b), .val (.int (Int32.ofNat (o + i))), .val (.ref d), .val (.int (Int32.ofNat (q + i))), .val (.int (Int32.ofNat len)), .val (.int (Int32.ofNat i)), z] [])) → ∃ (T' : State) (B' : Cell) (z' : Slot), Stand p l e { frames := 0, locals := 0, cells := 0, slots := 0 } s m #[.ref b, .int (Int32.ofNat o), .ref d, .int (Int32.ofNat q), .int (Int32.ofNat len)] below meth c T' ([] ++ copyLocs d q len) 0 0 ∧ Put d B' s₁ T' ∧ Laid B B' q (q + len) (fun j => Value.int (lo8 (cv A (o + (j - q))))) ∧
      Steps p.tables e below (s₁.setTop (entryFrame m #[.ref b, .int (Int32.ofNat o), .ref d, .int (Int32.ofNat q), .int (Int32.ofNat len)] 7)) (T'.setTop (mkF m 3 #[.val (.ref b), .val (.int (Int32.ofNat (o + len))), .val (.ref d), .val (.int (Int32.ofNat (q + len))), .val (.int (Int32.ofNat len)), .val (.int (Int32.ofNat len)), z'] [])) := by
    intro r
    induction r with
    | zero =>
      intro i hi z hz Tl Bk Xl pl fl cl
      have hil : i = len := by omega
      rw [hil] at Xl fl cl
      exact ⟨Tl, Bk, z, Xl, pl, fl, cl⟩
    | succ r ih =>
      intro i hi z hz Tl Bk Xl pl fl cl
      have all := X0.warmed.alike.symm.trans Xl.warmed.alike
      have hAl := hA0.keep all (pl.other hne hA0.1)
      have hBk := hB0.like all pl.1 fl.1 fl.2.1 fl.2.2.1
      have hlt : q + i < Bk.slots.size := by rw [fl.2.2.1]; omega
      have c3 : Steps p.tables e below (s₁.setTop (entryFrame m #[.ref b, .int (Int32.ofNat o), .ref d, .int (Int32.ofNat q), .int (Int32.ofNat len)] 7)) (Tl.setTop (mkF m 12 #[.val (.ref b), .val (.int (Int32.ofNat (o + i))), .val (.ref d), .val (.int (Int32.ofNat (q + i))), .val (.int (Int32.ofNat len)), .val (.int (Int32.ofNat i)), z] [.int (Int32.ofNat (o + i)), .ref b])) := cl.trans (by
        refine XS.iload Xl.here hexec rfl (hb hbytes d3) rfl ?_
        refine XS.iload Xl.here hexec rfl (hb hbytes d5) rfl ?_
        refine XS.icmpNo Xl.here hexec rfl (hb hbytes d7) rfl (ii_ge_f (lt32 (by omega) (by omega))) ?_
        refine XS.aloadN Xl.here hexec rfl (hb hbytes d10) rfl rfl ?_
        refine XS.iloadN Xl.here hexec rfl (hb hbytes d11) rfl ?_
        exact Steps.refl _)
      have c4 : Steps p.tables e below (s₁.setTop (entryFrame m #[.ref b, .int (Int32.ofNat o), .ref d, .int (Int32.ofNat q), .int (Int32.ofNat len)] 7)) (Tl.setTop (mkF m 13 #[.val (.ref b), .val (.int (Int32.ofNat (o + i))), .val (.ref d), .val (.int (Int32.ofNat (q + i))), .val (.int (Int32.ofNat len)), .val (.int (Int32.ofNat i)), z] [.int (cv A (o + i))])) := c3.trans (by
        refine Xl.aget hexec hAl rfl (hA.get (i := o + i) (by omega)) rfl rfl (hb hbytes d12) ?_
        exact Steps.refl _)
      have c5 : Steps p.tables e below (s₁.setTop (entryFrame m #[.ref b, .int (Int32.ofNat o), .ref d, .int (Int32.ofNat q), .int (Int32.ofNat len)] 7)) (Tl.setTop (mkF m 15 #[.val (.ref b), .val (.int (Int32.ofNat (o + i))), .val (.ref d), .val (.int (Int32.ofNat (q + i))), .val (.int (Int32.ofNat len)), .val (.int (Int32.ofNat i)), .val (.int (cv A (o + i)))] [])) := c4.trans (by
        refine XS.istoreS Xl.here hexec rfl (hb hbytes d13) rfl rfl hz ?_
        exact Steps.refl _)
      have c6 : Steps p.tables e below (s₁.setTop (entryFrame m #[.ref b, .int (Int32.ofNat o), .ref d, .int (Int32.ofNat q), .int (Int32.ofNat len)] 7)) (Tl.setTop (mkF m 31 #[.val (.ref b), .val (.int (Int32.ofNat (o + i))), .val (.ref d), .val (.int (Int32.ofNat (q + i))), .val (.int (Int32.ofNat len)), .val (.int (Int32.ofNat i)), .val (.int (cv A (o + i)))] [.int (lo8 (cv A (o + i))), .int (Int32.ofNat (q + i)), .ref d])) := c5.trans (by
        refine XS.iload Xl.here hexec rfl (hb hbytes d15) rfl ?_
        refine sipushV Xl.here hexec rfl 255 (hb hbytes d17) (by decide) ?_
        refine XS.icmpYes Xl.here hexec rfl (pc0 := 20) rfl (hb hbytes d20) rfl (ii_le_t (hp i (by omega))) (by decide) rfl ?_
        refine XS.aloadN Xl.here hexec rfl (hb hbytes d26) rfl rfl ?_
        refine XS.iloadN Xl.here hexec rfl (hb hbytes d27) rfl ?_
        refine XS.iload Xl.here hexec rfl (hb hbytes d28) rfl ?_
        refine i2b Xl.here hexec rfl (hb hbytes d30) rfl ?_
        exact Steps.refl _)
      obtain ⟨T7, X7, p7, st7⟩ := Xl.aput hexec hBk rfl hlt rfl (fits_lo8 (cv A (o + i))) (g := (mkF m 31 #[.val (.ref b), .val (.int (Int32.ofNat (o + i))), .val (.ref d), .val (.int (Int32.ofNat (q + i))), .val (.int (Int32.ofNat len)), .val (.int (Int32.ofNat i)), .val (.int (cv A (o + i)))] [.int (lo8 (cv A (o + i))), .int (Int32.ofNat (q + i)), .ref d])) rfl (rest := []) rfl (hb hbytes d31)
      have c8 : Steps p.tables e below (s₁.setTop (entryFrame m #[.ref b, .int (Int32.ofNat o), .ref d, .int (Int32.ofNat q), .int (Int32.ofNat len)] 7)) (T7.setTop (mkF m 32 #[.val (.ref b), .val (.int (Int32.ofNat (o + i))), .val (.ref d), .val (.int (Int32.ofNat (q + i))), .val (.int (Int32.ofNat len)), .val (.int (Int32.ofNat i)), .val (.int (cv A (o + i)))] [])) := c6.trans (st7 _ (Steps.refl _))
      have c9 : Steps p.tables e below (s₁.setTop (entryFrame m #[.ref b, .int (Int32.ofNat o), .ref d, .int (Int32.ofNat q), .int (Int32.ofNat len)] 7)) (T7.setTop (mkF m 3 #[.val (.ref b), .val (.int (Int32.ofNat (o + i) + 1)), .val (.ref d), .val (.int (Int32.ofNat (q + i) + 1)), .val (.int (Int32.ofNat len)), .val (.int (Int32.ofNat i + 1)), .val (.int (cv A (o + i)))] [])) := c8.trans (by
        refine iincV X7.here hexec rfl 1 (hb hbytes d32) (by decide) rfl rfl ?_
        refine iincV X7.here hexec rfl 1 (hb hbytes d35) (by decide) rfl rfl ?_
        refine iincV X7.here hexec rfl 1 (hb hbytes d38) (by decide) rfl rfl ?_
        refine XS.goto X7.here hexec rfl (pc0 := 41) rfl (hb hbytes d41) (by decide) rfl ?_
        exact Steps.refl _)
      have c10 : Steps p.tables e below (s₁.setTop (entryFrame m #[.ref b, .int (Int32.ofNat o), .ref d, .int (Int32.ofNat q), .int (Int32.ofNat len)] 7)) (T7.setTop (mkF m 3 #[.val (.ref b), .val (.int (Int32.ofNat (o + (i + 1)))), .val (.ref d), .val (.int (Int32.ofNat (q + (i + 1)))), .val (.int (Int32.ofNat len)), .val (.int (Int32.ofNat (i + 1))), .val (.int (cv A (o + i)))] [])) := by
        have := c9
        rw [succ32, succ32, succ32] at this
        exact this
      exact ih (i + 1) (by omega) _ (Or.inr ⟨_, rfl, rfl⟩) T7 _ (by rw [copyLocs_step, ← List.append_assoc]; exact X7) (pl.trans p7) (fl.step (by omega) hlt (by simp)) c10
  obtain ⟨T9, B9, z9, X9, p9, f9, g9⟩ := loop len 0 (by omega) .unset (Or.inl rfl) s₁ B (by simpa [copyLocs] using X0) ⟨hB0.1, fun _ _ => rfl, rfl⟩ (Laid.zero _ _ _) c2
  have c11 : Steps p.tables e below (s₁.setTop (entryFrame m #[.ref b, .int (Int32.ofNat o), .ref d, .int (Int32.ofNat q), .int (Int32.ofNat len)] 7)) (T9.setTop (mkF m 46 #[.val (.ref b), .val (.int (Int32.ofNat (o + len))), .val (.ref d), .val (.int (Int32.ofNat (q + len))), .val (.int (Int32.ofNat len)), .val (.int (Int32.ofNat len)), z9] [.int (Int32.ofNat len)])) := g9.trans (by
    refine XS.iload X9.here hexec rfl (hb hbytes d3) rfl ?_
    refine XS.iload X9.here hexec rfl (hb hbytes d5) rfl ?_
    refine XS.icmpYes X9.here hexec rfl (pc0 := 7) rfl (hb hbytes d7) rfl (ii_ge_t (nlt32 (by omega) (Nat.le_refl _))) (by decide) rfl ?_
    refine XS.iload X9.here hexec rfl (hb hbytes d44) rfl ?_
    exact Steps.refl _)
  exact ⟨T9, some (.int (Int32.ofNat len)), _, _, _, X9, by simp, rfl, rfl, (fun h => by cases h), ⟨rfl, B9, p9.from hh0, f9⟩, fun fs hl => c11.trans (X9.ireturnOut hexec hret rfl (Or.inl rfl) (hb hbytes d46) hl)⟩
end Cmp5
namespace Cmp3
def yN : MethodName := ⟨"java/lang/StringUTF16", "compress", "([CII)[B"⟩
abbrev yB : ByteArray := jdk_52_method_16_code
theorem d0 : decode yB 0 = .ok (.iload_n 2, 1) := by decide +kernel
theorem d1 : decode yB 1 = .ok (.newarray .byte, 2) := by decide +kernel
theorem d3 : decode yB 3 = .ok (.astore_n 3, 1) := by decide +kernel
theorem d4 : decode yB 4 = .ok (.aload_n 0, 1) := by decide +kernel
theorem d5 : decode yB 5 = .ok (.iload_n 1, 1) := by decide +kernel
theorem d6 : decode yB 6 = .ok (.aload_n 3, 1) := by decide +kernel
theorem d7 : decode yB 7 = .ok (.iconst 0, 1) := by decide +kernel
theorem d8 : decode yB 8 = .ok (.iload_n 2, 1) := by decide +kernel
theorem d9 : decode yB 9 = .ok (.invokestatic 115, 3) := by decide +kernel
theorem d12 : decode yB 12 = .ok (.istore 4, 2) := by decide +kernel
theorem d14 : decode yB 14 = .ok (.iload 4, 2) := by decide +kernel
theorem d16 : decode yB 16 = .ok (.iload_n 2, 1) := by decide +kernel
theorem d17 : decode yB 17 = .ok (.if_icmp (.eq) 40, 3) := by decide +kernel
theorem d57 : decode yB 57 = .ok (.aload_n 3, 1) := by decide +kernel
theorem d58 : decode yB 58 = .ok (.areturn, 1) := by decide +kernel
def site : List Cond := [.arrayClass .byte, Cmp5.tab] ++ staticW U16 115 Cmp5.yN
def tab : Cond := tabOf yN yB 6 (some (.array .byte)) site
def P (b : Addr) (A : Cell) (o len : Nat) (args : Array Value) (s : State) : Prop := args = #[.ref b, .int (Int32.ofNat o), .int (Int32.ofNat len)] ∧ Ch b A s ∧ o + len ≤ A.slots.size ∧ len ≤ 536870912 ∧ ∀ i, i < len → ¬ 255 < cv A (o + i)
def E (b : Addr) (A : Cell) (o len : Nat) (r : Option Value) (s u : State) : Prop := NewArr .byte "[B" len (fun j => .int (lo8 (cv A (o + j)))) r s u ∧ u.heap.size = s.heap.size + 1
/-- no char of the range above 255: a new byte[] of their low bytes -/
theorem law (l : Launch) (b : Addr) (A : Cell) (o len : Nat) : Law l yN 3 3 1 18 yB 6 (some (.array .byte)) site (P b A o len) (E b A o len) [] 1 len := by
  refine Law.of_walk (plainFor_of_name (by decide +kernel)) (by decide +kernel) (by decide +kernel) (by decide) (fun _ _ h => by rw [h.1]; rfl) (fun _ U U' hal hh h => ⟨h.1, h.2.1.mv hal hh, h.2.2⟩) (fun r U U' V V' h1 hal h2 h => ⟨NewArr.mv r U U' V V' h1 hal h2 h.1, by rw [h1, h2]; exact h.2⟩) ?_
  intro p e s m args below meth c s₁ X0 hexec hbytes hml hret hlk hnm hown hh0 W hP
  obtain ⟨rfl, hA, l1, l2, hp⟩ := hP
  have a31 := hA.1.2.2.2
  have c1 : Steps p.tables e below (s₁.setTop (entryFrame m #[.ref b, .int (Int32.ofNat o), .int (Int32.ofNat len)] 6)) (s₁.setTop (mkF m 0 #[.val (.ref b), .val (.int (Int32.ofNat o)), .val (.int (Int32.ofNat len)), .unset, .unset, .unset] [])) := entry rfl
  have c2 : Steps p.tables e below (s₁.setTop (entryFrame m #[.ref b, .int (Int32.ofNat o), .int (Int32.ofNat len)] 6)) (s₁.setTop (mkF m 1 #[.val (.ref b), .val (.int (Int32.ofNat o)), .val (.int (Int32.ofNat len)), .unset, .unset, .unset] [.int (Int32.ofNat len)])) := c1.trans (by
    refine XS.iloadN X0.here hexec rfl (hb hbytes d0) rfl ?_
    exact Steps.refl _)
  obtain ⟨T3, B3, X3, ba3, bs3, bv3, bh3, bf3, st3⟩ := X0.anew hexec (atype := .byte) (wk W (.arrayClass .byte)) rfl (by show len * 1 ≤ _; omega) (by omega) (g := (mkF m 1 #[.val (.ref b), .val (.int (Int32.ofNat o)), .val (.int (Int32.ofNat len)), .unset, .unset, .unset] [.int (Int32.ofNat len)])) rfl (hb hbytes d1) (rest := []) rfl (Nat.le_refl _) (by show 0 + len ≤ len; omega)
  rw [hh0] at ba3 st3
  have kp3 : XT.Kept s T3 := (XT.Kept.of_eq hh0).push bh3
  have hA3 := hA.keep X3.warmed.alike (kp3 _ _ hA.1.1)
  have hne : b ≠ s.heap.size := hA.1.ne
  have c4 : Steps p.tables e below (s₁.setTop (entryFrame m #[.ref b, .int (Int32.ofNat o), .int (Int32.ofNat len)] 6)) (T3.setTop (mkF m 3 #[.val (.ref b), .val (.int (Int32.ofNat o)), .val (.int (Int32.ofNat len)), .unset, .unset, .unset] [.ref s.heap.size])) := c2.trans (st3 _ (Steps.refl _))
  have c5 : Steps p.tables e below (s₁.setTop (entryFrame m #[.ref b, .int (Int32.ofNat o), .int (Int32.ofNat len)] 6)) (T3.setTop (mkF m 9 #[.val (.ref b), .val (.int (Int32.ofNat o)), .val (.int (Int32.ofNat len)), .val (.ref s.heap.size), .unset, .unset] [.int (Int32.ofNat len), .int 0, .ref s.heap.size, .int (Int32.ofNat o), .ref b])) := c4.trans (by
    refine XS.astoreN X3.here hexec rfl (hb hbytes d3) rfl rfl rfl ?_
    refine XS.aloadN X3.here hexec rfl (hb hbytes d4) rfl rfl ?_
    refine XS.iloadN X3.here hexec rfl (hb hbytes d5) rfl ?_
    refine XS.aloadN X3.here hexec rfl (hb hbytes d6) rfl rfl ?_
    refine iconstV X3.here hexec rfl 0 (hb hbytes d7) (by decide) ?_
    refine XS.iloadN X3.here hexec rfl (hb hbytes d8) rfl ?_
    exact Steps.refl _)
  obtain ⟨v6, T6, X6, E6, g6⟩ := X3.callS hexec (Cmp5.law l b A s.heap.size B3 o 0 len) hown (wks W (staticW U16 115 Cmp5.yN)) (wk W Cmp5.tab) (W := 0) (Nat.le_of_ble_eq_true rfl) (Nat.le_of_ble_eq_true rfl) (Nat.le_refl _) (by show 0 + len + 0 ≤ len; omega) (g := (mkF m 9 #[.val (.ref b), .val (.int (Int32.ofNat o)), .val (.int (Int32.ofNat len)), .val (.ref s.heap.size), .unset, .unset] [.int (Int32.ofNat len), .int (Int32.ofNat 0), .ref s.heap.size, .int (Int32.ofNat o), .ref b])) rfl (by rw [hml]; rfl) c5 (argsL := [.ref b, .int (Int32.ofNat o), .ref s.heap.size, .int (Int32.ofNat 0), .int (Int32.ofNat len)]) (rest := []) rfl rfl (by show 2 * 0 + 0 ≤ _; decide) (hb hbytes d9) (⟨rfl, hA3, ba3, hne, l1, by rw [bs3]; simp, hp⟩)
  obtain ⟨rfl, B6, p6, f6⟩ := E6
  have c7 : Steps p.tables e below (s₁.setTop (entryFrame m #[.ref b, .int (Int32.ofNat o), .int (Int32.ofNat len)] 6)) (T6.setTop (mkF m 12 #[.val (.ref b), .val (.int (Int32.ofNat o)), .val (.int (Int32.ofNat len)), .val (.ref s.heap.size), .unset, .unset] [.int (Int32.ofNat len)])) := g6
  have c8 : Steps p.tables e below (s₁.setTop (entryFrame m #[.ref b, .int (Int32.ofNat o), .int (Int32.ofNat len)] 6)) (T6.setTop (mkF m 58 #[.val (.ref b), .val (.int (Int32.ofNat o)), .val (.int (Int32.ofNat len)), .val (.ref s.heap.size), .val (.int (Int32.ofNat len)), .unset] [.ref s.heap.size])) := c7.trans (by
    refine XS.istore X6.here hexec rfl (hb hbytes d12) rfl rfl ?_
    refine XS.iload X6.here hexec rfl (hb hbytes d14) rfl ?_
    refine XS.iloadN X6.here hexec rfl (hb hbytes d16) rfl ?_
    refine XS.icmpYes X6.here hexec rfl (pc0 := 17) rfl (hb hbytes d17) rfl (ii_eq_t rfl) (by decide) rfl ?_
    refine XS.aloadN X6.here hexec rfl (hb hbytes d57) rfl rfl ?_
    exact Steps.refl _)
  have X8 := X6.wide (L' := []) (cells' := 1) (slots' := len) (fun x hx hlt => by
    simp only [List.nil_append, copyLocs, List.mem_map, List.mem_range] at hx
    obtain ⟨i, -, rfl⟩ := hx
    exact absurd hlt (Nat.lt_irrefl _)) (Nat.le_refl _) (by omega)
  exact ⟨T6, some (.ref s.heap.size), _, _, _, X8, rfl, rfl, rfl, (fun h => by cases h), ⟨⟨rfl, B6, ba3.like (X3.warmed.alike.symm.trans X6.warmed.alike) p6.1 f6.1 f6.2.1 f6.2.2.1, f6.2.1.trans bv3, by rw [X6.warmed.alike.findClass, f6.1]; exact bf3, by rw [f6.2.2.1, bs3]; simp, fun j hj => by rw [f6.2.2.2 j, if_pos (by omega)]; rfl, kp3.put p6 (Nat.le_refl _)⟩, by rw [p6.2.2, bh3, hh0]; simp⟩, fun fs hl => c8.trans (X8.areturnOut hexec rfl hret rfl (hb hbytes d58) hl)⟩
end Cmp3
namespace CodL
def yN : MethodName := ⟨"java/lang/StringUTF16", "coderFromArrayLen", "([BI)B"⟩
abbrev yB : ByteArray := jdk_52_method_15_code
theorem d0 : decode yB 0 = .ok (.iload_n 1, 1) := by decide +kernel
theorem d1 : decode yB 1 = .ok (.aload_n 0, 1) := by decide +kernel
theorem d2 : decode yB 2 = .ok (.arraylength, 1) := by decide +kernel
theorem d3 : decode yB 3 = .ok (.isub, 1) := by decide +kernel
theorem d4 : decode yB 4 = .ok (.bipush 31, 2) := by decide +kernel
theorem d6 : decode yB 6 = .ok (.iushr, 1) := by decide +kernel
theorem d7 : decode yB 7 = .ok (.i2b, 1) := by decide +kernel
theorem d8 : decode yB 8 = .ok (.ireturn, 1) := by decide +kernel
def site : List Cond := []
def tab : Cond := tabOf yN yB 2 (some .byte) site
def P (d : Addr) (B : Cell) (args : Array Value) (s : State) : Prop := args = #[.ref d, .int (Int32.ofNat B.slots.size)] ∧ Arr .byte d B s
def E (r : Option Value) (s u : State) : Prop := XT.PureE (some (.int 0)) r s u
/-- an array as long as the number of chars: LATIN1 -/
theorem law (l : Launch) (d : Addr) (B : Cell) : Law l yN 2 2 0 0 yB 2 (some .byte) site (P d B) E [] 0 0 := by
  refine Law.of_walk (plainFor_of_name (by decide +kernel)) (by decide +kernel) (by decide +kernel) (by decide) (fun _ _ h => by rw [h.1]; rfl) (fun _ U U' hal hh h => ⟨h.1, h.2.mv hal hh⟩) (fun r U U' V V' h1 hal h2 h => XT.PureE.mv r U U' V V' h1 hal h2 h) ?_
  intro p e s m args below meth c s₁ X0 hexec hbytes hml hret hlk hnm hown hh0 W hP
  obtain ⟨rfl, hB⟩ := hP
  have hB0 := hB.mv X0.warmed.alike hh0
  have c1 : Steps p.tables e below (s₁.setTop (entryFrame m #[.ref d, .int (Int32.ofNat B.slots.size)] 2)) (s₁.setTop (mkF m 0 #[.val (.ref d), .val (.int (Int32.ofNat B.slots.size))] [])) := entry rfl
  have c2 : Steps p.tables e below (s₁.setTop (entryFrame m #[.ref d, .int (Int32.ofNat B.slots.size)] 2)) (s₁.setTop (mkF m 2 #[.val (.ref d), .val (.int (Int32.ofNat B.slots.size))] [.ref d, .int (Int32.ofNat B.slots.size)])) := c1.trans (by
    refine XS.iloadN X0.here hexec rfl (hb hbytes d0) rfl ?_
    refine XS.aloadN X0.here hexec rfl (hb hbytes d1) rfl rfl ?_
    exact Steps.refl _)
  have c3 : Steps p.tables e below (s₁.setTop (entryFrame m #[.ref d, .int (Int32.ofNat B.slots.size)] 2)) (s₁.setTop (mkF m 8 #[.val (.ref d), .val (.int (Int32.ofNat B.slots.size))] [.int (lo8 (ushr (Int32.ofNat B.slots.size - Int32.ofNat B.slots.size) 31))])) := c2.trans (by
    refine X0.alen hexec hB0 rfl rfl (hb hbytes d2) ?_
    refine XS.isub X0.here hexec rfl (hb hbytes d3) rfl ?_
    refine bipushV X0.here hexec rfl 31 (hb hbytes d4) (by decide) ?_
    refine iushr X0.here hexec rfl (hb hbytes d6) rfl ?_
    refine i2b X0.here hexec rfl (hb hbytes d7) rfl ?_
    exact Steps.refl _)
  have e0 : lo8 (ushr (Int32.ofNat B.slots.size - Int32.ofNat B.slots.size) 31) = 0 := by rw [Int32.sub_self]; decide
  rw [e0] at c3
  exact ⟨s₁, some (.int 0), _, _, _, X0, rfl, rfl, rfl, (fun h => by cases h), ⟨rfl, hh0⟩, fun fs hl => c3.trans (X0.ireturnOut hexec hret rfl (Or.inr (Or.inr (Or.inl rfl))) (hb hbytes d8) hl)⟩
end CodL
/-- the String at a is Latin-1 over a new byte[] (the heap's one new cell): the low bytes of the len chars of A from o on; every cell but a is kept -/
def Got (a : Addr) (D : Cell) (fV fC : Field) (A : Cell) (o len : Nat) (r : Option Value) (s u : State) : Prop := r = none ∧ ∃ D' V : Cell, Blank "java/lang/String" a D' u ∧ Same D D' [fV.slot, fC.slot] ∧ D'.slots[fV.slot]? = some (.ref s.heap.size) ∧ D'.slots[fC.slot]? = some (.int 0) ∧ Arr .byte s.heap.size V u ∧ V.vm = .none ∧ u.vm.findClass "[B" = some V.cls ∧ V.slots.size = len ∧ (∀ j, j < len → V.slots[j]? = some (.int (lo8 (cv A (o + j))))) ∧ (∀ (y : Addr) (c : Cell), y ≠ a → s.heap[y]? = some c → u.heap[y]? = some c) ∧ u.heap.size = s.heap.size + 1
theorem Got.mv {a : Addr} {D A : Cell} {fV fC : Field} {o len : Nat} : ∀ r (U U' V V' : State), U'.heap = U.heap → V.vm.Alike V'.vm → V'.heap = V.heap → Got a D fV fC A o len r U V → Got a D fV fC A o len r U' V' :=
  fun r U U' V V' h1 hal h2 ⟨e0, D', X, a1, a2, a3, a4, a5, a6, a7, a8, a9, a10, a11⟩ => ⟨e0, D', X, a1.mv hal h2, a2, by rw [h1]; exact a3, a4, by rw [h1]; exact a5.mv hal h2, a6, by rw [hal.findClass]; exact a7, a8, a9, by rw [h1, h2]; exact a10, by rw [h1, h2]; exact a11⟩
namespace New4
def yN : MethodName := ⟨"java/lang/String", "<init>", "([CIILjava/lang/Void;)V"⟩
abbrev yB : ByteArray := jdk_42_method_149_code
theorem d0 : decode yB 0 = .ok (.aload_n 0, 1) := by decide +kernel
theorem d1 : decode yB 1 = .ok (.invokespecial 1, 3) := by decide +kernel
theorem d4 : decode yB 4 = .ok (.iload_n 3, 1) := by decide +kernel
theorem d5 : decode yB 5 = .ok (.ifCond (.ne) 22, 3) := by decide +kernel
theorem d27 : decode yB 27 = .ok (.getstatic 38, 3) := by decide +kernel
theorem d30 : decode yB 30 = .ok (.ifCond (.eq) 28, 3) := by decide +kernel
theorem d33 : decode yB 33 = .ok (.aload_n 1, 1) := by decide +kernel
theorem d34 : decode yB 34 = .ok (.iload_n 2, 1) := by decide +kernel
theorem d35 : decode yB 35 = .ok (.iload_n 3, 1) := by decide +kernel
theorem d36 : decode yB 36 = .ok (.invokestatic 177, 3) := by decide +kernel
theorem d39 : decode yB 39 = .ok (.astore 5, 2) := by decide +kernel
theorem d41 : decode yB 41 = .ok (.aload_n 0, 1) := by decide +kernel
theorem d42 : decode yB 42 = .ok (.aload 5, 2) := by decide +kernel
theorem d44 : decode yB 44 = .ok (.iload_n 3, 1) := by decide +kernel
theorem d45 : decode yB 45 = .ok (.invokestatic 47, 3) := by decide +kernel
theorem d48 : decode yB 48 = .ok (.putfield 15, 3) := by decide +kernel
theorem d51 : decode yB 51 = .ok (.aload_n 0, 1) := by decide +kernel
theorem d52 : decode yB 52 = .ok (.aload 5, 2) := by decide +kernel
theorem d54 : decode yB 54 = .ok (.putfield 9, 3) := by decide +kernel
theorem d57 : decode yB 57 = .ok (.return_, 1) := by decide +kernel
def site : List Cond := [.fieldLink "java/lang/String" 38 "java/lang/String" "COMPACT_STRINGS" "Z", Cmp3.tab, CodL.tab, .laysFinal "java/lang/String" "java/lang/String" "value" "[B", .fieldLink "java/lang/String" 9 "java/lang/String" "value" "[B", .laysFinal "java/lang/String" "java/lang/String" "coder" "B", .fieldLink "java/lang/String" 15 "java/lang/String" "coder" "B"] ++ objW "java/lang/String" 1 ++ staticW "java/lang/String" 177 Cmp3.yN ++ staticW "java/lang/String" 47 CodL.yN
def tab : Cond := tabOf yN yB 6 none site
def P (a : Addr) (D : Cell) (fV fC : Field) (b : Addr) (A : Cell) (z : Int32) (o len : Nat) (args : Array Value) (s : State) : Prop := args = #[.ref a, .ref b, .int (Int32.ofNat o), .int (Int32.ofNat len), .null] ∧ Blank "java/lang/String" a D s ∧ Found "java/lang/String" "value" "[B" fV s ∧ Found "java/lang/String" "coder" "B" fC s ∧ Ch b A s ∧ StaticIs s "java/lang/String" "COMPACT_STRINGS" "Z" (.int z) ∧ ¬ z = 0 ∧ 0 < len ∧ o + len ≤ A.slots.size ∧ len ≤ 536870912 ∧ ∀ i, i < len → ¬ 255 < cv A (o + i)
def E (a : Addr) (D : Cell) (fV fC : Field) (A : Cell) (o len : Nat) (r : Option Value) (s u : State) : Prop := Got a D fV fC A o len r s u
/-- len > 0, no char of the range above 255: a Latin-1 String of their low bytes -/
theorem law (l : Launch) (a : Addr) (D : Cell) (fV fC : Field) (b : Addr) (A : Cell) (z : Int32) (o len : Nat) : Law l yN 5 4 2 35 yB 6 none site (P a D fV fC b A z o len) (E a D fV fC A o len) [⟨a, fC.slot⟩, ⟨a, fV.slot⟩] 1 len := by
  refine Law.of_walk (plainFor_of_name (by decide +kernel)) (by decide +kernel) (by decide +kernel) (by decide) (fun _ _ h => by rw [h.1]; rfl) (fun _ U U' hal hh h => ⟨h.1, h.2.1.mv hal hh, h.2.2.1.al hal, h.2.2.2.1.al hal, h.2.2.2.2.1.mv hal hh, h.2.2.2.2.2.1.there hal hh, h.2.2.2.2.2.2⟩) (fun r U U' V V' h1 hal h2 h => Got.mv r U U' V V' h1 hal h2 h) ?_
  intro p e s m args below meth c s₁ X0 hexec hbytes hml hret hlk hnm hown hh0 W hP
  obtain ⟨rfl, hB, f1, f2, hA, s1, hz, l0, l1, l2, hp⟩ := hP
  have a31 := hA.1.2.2.2
  have c1 : Steps p.tables e below (s₁.setTop (entryFrame m #[.ref a, .ref b, .int (Int32.ofNat o), .int (Int32.ofNat len), .null] 6)) (s₁.setTop (mkF m 0 #[.val (.ref a), .val (.ref b), .val (.int (Int32.ofNat o)), .val (.int (Int32.ofNat len)), .val .null, .unset] [])) := entry rfl
  have c2 : Steps p.tables e below (s₁.setTop (entryFrame m #[.ref a, .ref b, .int (Int32.ofNat o), .int (Int32.ofNat len), .null] 6)) (s₁.setTop (mkF m 1 #[.val (.ref a), .val (.ref b), .val (.int (Int32.ofNat o)), .val (.int (Int32.ofNat len)), .val .null, .unset] [.ref a])) := c1.trans (by
    refine XS.aloadN X0.here hexec rfl (hb hbytes d0) rfl rfl ?_
    exact Steps.refl _)
  obtain ⟨T3, X3, q3, st3⟩ := X0.oinit hexec hown (wks W (objW "java/lang/String" 1)) (g := (mkF m 1 #[.val (.ref a), .val (.ref b), .val (.int (Int32.ofNat o)), .val (.int (Int32.ofNat len)), .val .null, .unset] [.ref a])) rfl (by rw [hml]; rfl) (rest := []) rfl (hb hbytes d1) (W := 0) (by show 2 * 0 + 0 ≤ _; decide) (Nat.le_of_ble_eq_true rfl) (Nat.le_of_ble_eq_true rfl)
  have hh3 := q3.trans hh0
  have c4 : Steps p.tables e below (s₁.setTop (entryFrame m #[.ref a, .ref b, .int (Int32.ofNat o), .int (Int32.ofNat len), .null] 6)) (T3.setTop (mkF m 27 #[.val (.ref a), .val (.ref b), .val (.int (Int32.ofNat o)), .val (.int (Int32.ofNat len)), .val .null, .unset] [])) := (c2.trans (st3 _ (Steps.refl _))).trans (by
    refine XS.iloadN X3.here hexec rfl (hb hbytes d4) rfl ?_
    refine XS.ifYes X3.here hexec rfl (pc0 := 5) rfl (hb hbytes d5) rfl (i0_ne_t (nz32 (by omega) l0)) (by decide) rfl ?_
    exact Steps.refl _)
  obtain ⟨T5, X5, q5, st5⟩ := X3.sget hexec hown (wk W (.fieldLink "java/lang/String" 38 "java/lang/String" "COMPACT_STRINGS" "Z")) s1 (fun _ _ h => by rw [hh3]; exact h) (g := (mkF m 27 #[.val (.ref a), .val (.ref b), .val (.int (Int32.ofNat o)), .val (.int (Int32.ofNat len)), .val .null, .unset] [])) rfl (hb hbytes d27)
  have hh5 := q5.trans hh3
  have c6 : Steps p.tables e below (s₁.setTop (entryFrame m #[.ref a, .ref b, .int (Int32.ofNat o), .int (Int32.ofNat len), .null] 6)) (T5.setTop (mkF m 30 #[.val (.ref a), .val (.ref b), .val (.int (Int32.ofNat o)), .val (.int (Int32.ofNat len)), .val .null, .unset] [.int z])) := c4.trans (st5 _ (Steps.refl _))
  have c7 : Steps p.tables e below (s₁.setTop (entryFrame m #[.ref a, .ref b, .int (Int32.ofNat o), .int (Int32.ofNat len), .null] 6)) (T5.setTop (mkF m 36 #[.val (.ref a), .val (.ref b), .val (.int (Int32.ofNat o)), .val (.int (Int32.ofNat len)), .val .null, .unset] [.int (Int32.ofNat len), .int (Int32.ofNat o), .ref b])) := c6.trans (by
    refine XS.ifNo X5.here hexec rfl (hb hbytes d30) rfl (i0_eq_f hz) ?_
    refine XS.aloadN X5.here hexec rfl (hb hbytes d33) rfl rfl ?_
    refine XS.iloadN X5.here hexec rfl (hb hbytes d34) rfl ?_
    refine XS.iloadN X5.here hexec rfl (hb hbytes d35) rfl ?_
    exact Steps.refl _)
  obtain ⟨v8, T8, X8, E8, g8⟩ := X5.callS hexec (Cmp3.law l b A o len) hown (wks W (staticW "java/lang/String" 177 Cmp3.yN)) (wk W Cmp3.tab) (W := 0) (Nat.le_of_ble_eq_true rfl) (Nat.le_of_ble_eq_true rfl) (Nat.le_refl _) (by show 0 + len ≤ len; omega) (g := (mkF m 36 #[.val (.ref a), .val (.ref b), .val (.int (Int32.ofNat o)), .val (.int (Int32.ofNat len)), .val .null, .unset] [.int (Int32.ofNat len), .int (Int32.ofNat o), .ref b])) rfl (by rw [hml]; rfl) c7 (argsL := [.ref b, .int (Int32.ofNat o), .int (Int32.ofNat len)]) (rest := []) rfl rfl (by show 2 * 0 + 0 ≤ _; decide) (hb hbytes d36) (⟨rfl, hA.mv X5.warmed.alike hh5, l1, l2, hp⟩)
  obtain ⟨e8, z8⟩ := E8
  obtain ⟨rfl, N, n1, n2, n3, n4, n5, n6⟩ := NewArr.mv _ T5 s _ _ hh5.symm (Vm.Alike.refl _) rfl e8
  rw [hh5] at z8
  have hB1 := hB.keep X8.warmed.alike (n6 _ _ hB.1)
  have hne : s.heap.size ≠ a := (Nat.ne_of_lt (Array.getElem?_eq_some_iff.mp hB.1).1).symm
  have c9 : Steps p.tables e below (s₁.setTop (entryFrame m #[.ref a, .ref b, .int (Int32.ofNat o), .int (Int32.ofNat len), .null] 6)) (T8.setTop (mkF m 39 #[.val (.ref a), .val (.ref b), .val (.int (Int32.ofNat o)), .val (.int (Int32.ofNat len)), .val .null, .unset] [.ref s.heap.size])) := g8
  have c10 : Steps p.tables e below (s₁.setTop (entryFrame m #[.ref a, .ref b, .int (Int32.ofNat o), .int (Int32.ofNat len), .null] 6)) (T8.setTop (mkF m 45 #[.val (.ref a), .val (.ref b), .val (.int (Int32.ofNat o)), .val (.int (Int32.ofNat len)), .val .null, .val (.ref s.heap.size)] [.int (Int32.ofNat N.slots.size), .ref s.heap.size, .ref a])) := by
    have hc : Steps p.tables e below (s₁.setTop (entryFrame m #[.ref a, .ref b, .int (Int32.ofNat o), .int (Int32.ofNat len), .null] 6)) (T8.setTop (mkF m 45 #[.val (.ref a), .val (.ref b), .val (.int (Int32.ofNat o)), .val (.int (Int32.ofNat len)), .val .null, .val (.ref s.heap.size)] [.int (Int32.ofNat len), .ref s.heap.size, .ref a])) := c9.trans (by
      refine XS.astore X8.here hexec rfl (hb hbytes d39) rfl rfl rfl ?_
      refine XS.aloadN X8.here hexec rfl (hb hbytes d41) rfl rfl ?_
      refine XS.aload X8.here hexec rfl (hb hbytes d42) rfl rfl ?_
      refine XS.iloadN X8.here hexec rfl (hb hbytes d44) rfl ?_
      exact Steps.refl _)
    rw [n4]; exact hc
  obtain ⟨v11, T11, X11, E11, g11⟩ := X8.callS hexec (CodL.law l s.heap.size N) hown (wks W (staticW "java/lang/String" 47 CodL.yN)) (wk W CodL.tab) (W := 1) (Nat.le_of_ble_eq_true rfl) (Nat.le_of_ble_eq_true rfl) (Nat.le_refl _) (by show 0 + len + 0 ≤ len; omega) (g := (mkF m 45 #[.val (.ref a), .val (.ref b), .val (.int (Int32.ofNat o)), .val (.int (Int32.ofNat len)), .val .null, .val (.ref s.heap.size)] [.int (Int32.ofNat N.slots.size), .ref s.heap.size, .ref a])) rfl (by rw [hml]; rfl) c10 (argsL := [.ref s.heap.size, .int (Int32.ofNat N.slots.size)]) (rest := [.ref a]) rfl rfl (by show 2 * 0 + (1 + 0) ≤ _; decide) (hb hbytes d45) (⟨rfl, n1⟩)
  obtain ⟨rfl, q11⟩ := E11
  have hB11 := hB1.mv (X8.warmed.alike.symm.trans X11.warmed.alike) q11
  have c12 : Steps p.tables e below (s₁.setTop (entryFrame m #[.ref a, .ref b, .int (Int32.ofNat o), .int (Int32.ofNat len), .null] 6)) (T11.setTop (mkF m 48 #[.val (.ref a), .val (.ref b), .val (.int (Int32.ofNat o)), .val (.int (Int32.ofNat len)), .val .null, .val (.ref s.heap.size)] [.int 0, .ref a])) := g11
  obtain ⟨T13, X13, p13, bl13, sl13, st13⟩ := X11.finit hexec hown (wk W (.fieldLink "java/lang/String" 15 "java/lang/String" "coder" "B")) (Or.inr ⟨_, (wk W (.laysFinal "java/lang/String" "java/lang/String" "coder" "B"))⟩) (Or.inl ⟨rfl, hnm⟩) f2 (Or.inl rfl) hB11 (t := .byte) (by decide +kernel) rfl (g := (mkF m 48 #[.val (.ref a), .val (.ref b), .val (.int (Int32.ofNat o)), .val (.int (Int32.ofNat len)), .val .null, .val (.ref s.heap.size)] [.int 0, .ref a])) rfl (rest := []) rfl (hb hbytes d48)
  have c14 : Steps p.tables e below (s₁.setTop (entryFrame m #[.ref a, .ref b, .int (Int32.ofNat o), .int (Int32.ofNat len), .null] 6)) (T13.setTop (mkF m 54 #[.val (.ref a), .val (.ref b), .val (.int (Int32.ofNat o)), .val (.int (Int32.ofNat len)), .val .null, .val (.ref s.heap.size)] [.ref s.heap.size, .ref a])) := (c12.trans (st13 _ (Steps.refl _))).trans (by
    refine XS.aloadN X13.here hexec rfl (hb hbytes d51) rfl rfl ?_
    refine XS.aload X13.here hexec rfl (hb hbytes d52) rfl rfl ?_
    exact Steps.refl _)
  obtain ⟨T15, X15, p15, bl15, sl15, st15⟩ := X13.finit hexec hown (wk W (.fieldLink "java/lang/String" 9 "java/lang/String" "value" "[B")) (Or.inr ⟨_, (wk W (.laysFinal "java/lang/String" "java/lang/String" "value" "[B"))⟩) (Or.inl ⟨rfl, hnm⟩) f1 (Or.inl rfl) bl13 (t := (.array .byte)) (by decide +kernel) rfl (g := (mkF m 54 #[.val (.ref a), .val (.ref b), .val (.int (Int32.ofNat o)), .val (.int (Int32.ofNat len)), .val .null, .val (.ref s.heap.size)] [.ref s.heap.size, .ref a])) rfl (rest := []) rfl (hb hbytes d54)
  have c16 : Steps p.tables e below (s₁.setTop (entryFrame m #[.ref a, .ref b, .int (Int32.ofNat o), .int (Int32.ofNat len), .null] 6)) (T15.setTop (mkF m 57 #[.val (.ref a), .val (.ref b), .val (.int (Int32.ofNat o)), .val (.int (Int32.ofNat len)), .val .null, .val (.ref s.heap.size)] [])) := c14.trans (st15 _ (Steps.refl _))
  have ap := apart (Or.inr ⟨_, (wk W (.laysFinal "java/lang/String" "java/lang/String" "value" "[B"))⟩) (Or.inr ⟨_, (wk W (.laysFinal "java/lang/String" "java/lang/String" "coder" "B"))⟩) f1 f2 (t₁ := .array .byte) (t₂ := .byte) (by decide +kernel) (by decide +kernel) (by decide)
  have al := X8.warmed.alike.symm.trans X15.warmed.alike
  have n7 : T11.heap[s.heap.size]? = some N := by rw [q11]; exact n1.1
  exact ⟨T15, none, _, _, _, X15, by simp, rfl, by omega, (fun _ => rfl), ⟨rfl, _, N, bl15, ((Same.refl D _).set _ (by simp)).set _ (by simp), sl15, (Cell.slots_setSlot_ne _ ap).trans sl13, n1.keep al (p15.other hne (p13.other hne n7)), n2, by rw [al.findClass]; exact n3, n4, n5, fun y c h1 h2 => p15.other h1 (p13.other h1 (by rw [q11]; exact n6 y c h2)), by rw [p15.2.2, p13.2.2, q11]; exact z8⟩, fun fs hl => c16.trans (X15.returnOut hexec hret (hb hbytes d57) hl)⟩
end New4
namespace New1
def yN : MethodName := ⟨"java/lang/String", "<init>", "([C)V"⟩
abbrev yB : ByteArray := jdk_42_method_3_code
theorem d0 : decode yB 0 = .ok (.aload_n 0, 1) := by decide +kernel
theorem d1 : decode yB 1 = .ok (.aload_n 1, 1) := by decide +kernel
theorem d2 : decode yB 2 = .ok (.iconst 0, 1) := by decide +kernel
theorem d3 : decode yB 3 = .ok (.aload_n 1, 1) := by decide +kernel
theorem d4 : decode yB 4 = .ok (.arraylength, 1) := by decide +kernel
theorem d5 : decode yB 5 = .ok (.aconst_null, 1) := by decide +kernel
theorem d6 : decode yB 6 = .ok (.invokespecial 27, 3) := by decide +kernel
theorem d9 : decode yB 9 = .ok (.return_, 1) := by decide +kernel
def site : List Cond := [New4.tab] ++ initW "java/lang/String" 27 New4.yN
def tab : Cond := tabOf yN yB 2 none site
def P (a : Addr) (D : Cell) (fV fC : Field) (b : Addr) (A : Cell) (z : Int32) (args : Array Value) (s : State) : Prop := args = #[.ref a, .ref b] ∧ Blank "java/lang/String" a D s ∧ Found "java/lang/String" "value" "[B" fV s ∧ Found "java/lang/String" "coder" "B" fC s ∧ Ch b A s ∧ StaticIs s "java/lang/String" "COMPACT_STRINGS" "Z" (.int z) ∧ ¬ z = 0 ∧ 0 < A.slots.size ∧ A.slots.size ≤ 536870912 ∧ ∀ i, i < A.slots.size → ¬ 255 < cv A i
def E (a : Addr) (D : Cell) (fV fC : Field) (A : Cell) (r : Option Value) (s u : State) : Prop := Got a D fV fC A 0 A.slots.size r s u
/-- new String(chars), not empty, no char above 255: a Latin-1 String of their low bytes -/
theorem law (l : Launch) (a : Addr) (D : Cell) (fV fC : Field) (b : Addr) (A : Cell) (z : Int32) : Law l yN 2 1 3 52 yB 2 none site (P a D fV fC b A z) (E a D fV fC A) [⟨a, fC.slot⟩, ⟨a, fV.slot⟩] 1 A.slots.size := by
  refine Law.of_walk (plainFor_of_name (by decide +kernel)) (by decide +kernel) (by decide +kernel) (by decide) (fun _ _ h => by rw [h.1]; rfl) (fun _ U U' hal hh h => ⟨h.1, h.2.1.mv hal hh, h.2.2.1.al hal, h.2.2.2.1.al hal, h.2.2.2.2.1.mv hal hh, h.2.2.2.2.2.1.there hal hh, h.2.2.2.2.2.2⟩) (fun r U U' V V' h1 hal h2 h => Got.mv r U U' V V' h1 hal h2 h) ?_
  intro p e s m args below meth c s₁ X0 hexec hbytes hml hret hlk hnm hown hh0 W hP
  obtain ⟨rfl, hB, f1, f2, hA, s1, hz, l0, l2, hp⟩ := hP
  have c1 : Steps p.tables e below (s₁.setTop (entryFrame m #[.ref a, .ref b] 2)) (s₁.setTop (mkF m 0 #[.val (.ref a), .val (.ref b)] [])) := entry rfl
  have c2 : Steps p.tables e below (s₁.setTop (entryFrame m #[.ref a, .ref b] 2)) (s₁.setTop (mkF m 6 #[.val (.ref a), .val (.ref b)] [.null, .int (Int32.ofNat A.slots.size), .int 0, .ref b, .ref a])) := c1.trans (by
    refine XS.aloadN X0.here hexec rfl (hb hbytes d0) rfl rfl ?_
    refine XS.aloadN X0.here hexec rfl (hb hbytes d1) rfl rfl ?_
    refine iconstV X0.here hexec rfl 0 (hb hbytes d2) (by decide) ?_
    refine XS.aloadN X0.here hexec rfl (hb hbytes d3) rfl rfl ?_
    refine X0.alen hexec (hA.1.mv X0.warmed.alike hh0) rfl rfl (hb hbytes d4) ?_
    refine XS.aconstNull X0.here hexec rfl (hb hbytes d5) ?_
    exact Steps.refl _)
  obtain ⟨v3, T3, X3, E3, g3⟩ := X0.callN hexec (New4.law l a D fV fC b A z 0 A.slots.size) rfl hown (wks W (initW "java/lang/String" 27 New4.yN)) (W New4.tab (by simp only [site, List.mem_cons, List.mem_append, true_or, or_true])) (W := 0) (Nat.le_of_ble_eq_true rfl) (Nat.le_of_ble_eq_true rfl) (Nat.le_refl _) (by show 0 + A.slots.size ≤ A.slots.size; omega) (g := (mkF m 6 #[.val (.ref a), .val (.ref b)] [.null, .int (Int32.ofNat A.slots.size), .int (Int32.ofNat 0), .ref b, .ref a])) rfl (by rw [hml]; rfl) c2 (argsL := [.ref b, .int (Int32.ofNat 0), .int (Int32.ofNat A.slots.size), .null]) (rest := []) rfl rfl (by show 2 * 0 + 0 ≤ _; decide) (hb hbytes d6) (⟨rfl, hB.mv X0.warmed.alike hh0, f1.al X0.warmed.alike, f2.al X0.warmed.alike, hA.mv X0.warmed.alike hh0, s1.there X0.warmed.alike hh0, hz, l0, by omega, l2, fun i hi => by rw [Nat.zero_add]; exact hp i hi⟩)
  have e0 := Got.mv _ s₁ s _ _ hh0.symm (Vm.Alike.refl _) rfl E3
  obtain rfl := e0.1
  have c4 : Steps p.tables e below (s₁.setTop (entryFrame m #[.ref a, .ref b] 2)) (T3.setTop (mkF m 9 #[.val (.ref a), .val (.ref b)] [])) := g3
  exact ⟨T3, none, _, _, _, X3, by simp, rfl, by omega, (fun _ => rfl), e0, fun fs hl => c4.trans (X3.returnOut hexec hret (hb hbytes d9) hl)⟩
theorem pays {l : Launch} {R : Room} {p : Program} {e : Env} {below : List Frame} {s : State} {sargs : Array Value} {len W : Nat} (a : Addr) (D : Cell) (fV fC : Field) (b : Addr) (A : Cell) (z : Int32) (htab : tab.before sargs s = true) (hfr : 4 ≤ R.frames) (hlo : W + 65 ≤ R.locals) :
    Back l R p e below s sargs yN len W (fun A₁ a₁ => A₁.cells + 1 ≤ R.cells ∧ A₁.slots + A.slots.size ≤ R.slots ∧ P a D fV fC b A z a₁ A₁.U) (fun A₁ _ v₁ B₁ => E a D fV fC A v₁ A₁.U B₁.U ∧ B₁.locs = A₁.locs ++ [⟨a, fC.slot⟩, ⟨a, fV.slot⟩] ∧ B₁.cells = A₁.cells + 1 ∧ B₁.slots = A₁.slots + A.slots.size) :=
  (law l a D fV fC b A z).pays htab hfr (by omega)
end New1
/-- the byte, read back as charAt reads it, is the char -/
theorem lo8_mask {x : Int32} (h0 : ¬ x < 0) (h1 : ¬ 255 < x) : lo8 x &&& 255 = x := by
  have t : ∀ k : Fin 256, lo8 (Int32.ofNat k.val) &&& 255 = Int32.ofNat k.val := by decide +kernel
  rw [Int32.lt_iff_toInt_lt] at h0 h1
  have e0 : (0 : Int32).toInt = 0 := rfl
  have e1 : (255 : Int32).toInt = 255 := rfl
  obtain ⟨k, hk⟩ : ∃ k : Nat, x.toInt = k := ⟨x.toInt.toNat, by omega⟩
  have hx : x = Int32.ofNat k := Int32.toInt_inj.mp (by rw [hk, Int32.toInt_ofNat_small (by omega)])
  rw [hx]
  exact t ⟨k, by omega⟩
end StrChars
namespace StrChars.Road
open Jvm Sem ClassFile Op Lib Jvm.Stand Jvm.Free Jvm.Free.XT
open Jvm.Lib.Cold (StaticIs)
abbrev ST : String := "java/lang/String"
/-- every table word that New1's law asks, flat -/
abbrev words : List Jvm.Cond := [.code New1.yN New1.yB 2 none, .initialized ST, .methodLink ST 27 New4.yN, .instanceMethod New4.yN,
  .code New4.yN New4.yB 6 none, .fieldLink ST 38 ST "COMPACT_STRINGS" "Z", .laysFinal ST ST "value" "[B", .fieldLink ST 9 ST "value" "[B", .laysFinal ST ST "coder" "B", .fieldLink ST 15 ST "coder" "B",
  .methodLink ST 1 Lib.objectInit, .instanceMethod Lib.objectInit, .code Lib.objectInit ⟨#[0xb1]⟩ 1 none, .methodLink ST 177 Cmp3.yN, .static Cmp3.yN, .methodLink ST 47 CodL.yN, .static CodL.yN,
  .code Cmp3.yN Cmp3.yB 6 (some (.array .byte)), .initialized U16, .arrayClass .byte, .methodLink U16 115 Cmp5.yN, .static Cmp5.yN, .code Cmp5.yN Cmp5.yB 7 (some .int), .code CodL.yN CodL.yB 2 (some .byte)]
theorem tab_of {a : Array Value} {s : State} (h : ∀ w ∈ words, w.before a s = true) : New1.tab.before a s = true := by
  have h5 : Cmp5.tab.before a s = true := unparts (wk h (.code Cmp5.yN Cmp5.yB 7 (some .int))) (wks h (.initialized Cmp5.yN.cls :: Cmp5.site))
  have hc : CodL.tab.before a s = true := unparts (wk h (.code CodL.yN CodL.yB 2 (some .byte))) (wks h (.initialized CodL.yN.cls :: CodL.site))
  have q5 : ∀ w ∈ Cmp5.tab :: words, w.before a s = true := fun w hw => (List.mem_cons.mp hw).elim (fun e => e ▸ h5) (h w)
  have h3 : Cmp3.tab.before a s = true := unparts (wk q5 (.code Cmp3.yN Cmp3.yB 6 (some (.array .byte)))) (wks q5 (.initialized Cmp3.yN.cls :: Cmp3.site))
  have q3 : ∀ w ∈ Cmp3.tab :: CodL.tab :: words, w.before a s = true := fun w hw => (List.mem_cons.mp hw).elim (fun e => e ▸ h3) fun hw => (List.mem_cons.mp hw).elim (fun e => e ▸ hc) (h w)
  have h4 : New4.tab.before a s = true := unparts (wk q3 (.code New4.yN New4.yB 6 none)) (wks q3 (.initialized New4.yN.cls :: New4.site))
  have q4 : ∀ w ∈ New4.tab :: words, w.before a s = true := fun w hw => (List.mem_cons.mp hw).elim (fun e => e ▸ h4) (h w)
  exact unparts (wk q4 (.code New1.yN New1.yB 2 none)) (wks q4 (.initialized New1.yN.cls :: New1.site))
/-- the words ride from the start Z to the walk's own state -/
theorem moved {Z s : State} {a0 args : Array Value} (hZ : Z.Warmed39 s.vm) (hw : ∀ d ∈ words, d.before a0 Z = true) : ∀ d ∈ words, d.before args s = true := fun d hd => by
  have q := hw d hd
  have t : ∀ d ∈ words, d = .arrayClass .byte ∨ (d.onTables && d.keepsFace) = true := by decide +kernel
  rcases t d hd with rfl | t
  · exact RoadKit.mvA hZ q
  · exact RoadKit.mv hZ q t
/-- WHAT COMES BACK, over the tables of the start Z: h the heap at the call, h' behind it -/
def Q (Z : State) (x : Addr) (A : Cell) (h : Heap) (v : Option Value) (h' : Heap) (L : List Loc) : Prop := v = none ∧ (∀ y ∈ L, y.base = x) ∧ RoadKit.Keep h h' [x] ∧ h'.size = h.size + 1 ∧ RoadKit.Exa Z h' x ST ∧ RoadKit.Fld Z h' x ST "value" "[B" (.ref h.size) ∧ RoadKit.Fld Z h' x ST "coder" "B" (.int 0) ∧
  (∃ V : Cell, RoadKit.Arr Z h' h.size V .byte ∧ V.vm = .none ∧ Z.vm.findClass "[B" = some V.cls ∧ V.slots.size = A.slots.size ∧ ∀ j, j < A.slots.size → V.slots[j]? = some (.int (lo8 (cv A j)))) ∧
  ∀ (O n d : String) (w : Value), RoadKit.Fld Z h x O n d w → RoadKit.slotOf Z O n d ≠ RoadKit.slotOf Z ST "value" "[B" → RoadKit.slotOf Z O n d ≠ RoadKit.slotOf Z ST "coder" "B" → RoadKit.Fld Z h' x O n d w
/-- **new String(chars) AT A CALL, IN THE ROAD'S FORM**: for specialBack behind newO: x the fresh String, b the char[] with the cell A -/
theorem back {p : Program} {l : Launch} {e : Env} {R : Room} {s : State} {args : Array Value} {below : List Frame} {len W : Nat} {Z : State} {a0 : Array Value} {h : Heap} (hZ : Z.Warmed39 s.vm) (hw : ∀ d ∈ words, d.before a0 Z = true) {kI : Nat} (wi : (Jvm.Cond.instantiable ST kI).before a0 Z = true)
    {x b : Addr} {A : Cell} {z : Int32} {v0 c0 : Value} (E : RoadKit.Exa Z h x ST) (V : RoadKit.Fld Z h x ST "value" "[B" v0) (C : RoadKit.Fld Z h x ST "coder" "B" c0) (K : RoadKit.Arr Z h b A .char) (hty : Typed .char A) (S : RoadKit.Sta Z h ST "COMPACT_STRINGS" "Z" (.int z)) (hz : ¬ z = 0)
    (l0 : 0 < A.slots.size) (l2 : A.slots.size ≤ 536870912) (hp : ∀ i, i < A.slots.size → ¬ 255 < cv A i) (hfr : 4 ≤ R.frames) (hlo : W + 65 ≤ R.locals) :
    Back l R p e below s args New1.yN len W (fun P a => a = #[.ref x, .ref b] ∧ P.U.heap = h ∧ P.cells + 1 ≤ R.cells ∧ P.slots + A.slots.size ≤ R.slots)
      (fun P _ v B => ∃ L, Q Z x A h v B.U.heap L ∧ B.locs = P.locs ++ L ∧ B.cells = P.cells + 1 ∧ B.slots = P.slots + A.slots.size) := by
  intro m meth c P g ig mk a X hg hsize hdg hW hn hp'
  obtain ⟨rfl, rfl, r1, r2⟩ := hp'
  have al : Z.vm.Alike P.U.vm := hZ.alike.trans X.warmed.alike
  obtain ⟨D, cfV, kV, iV, fV, hD, gV, stV, knV, obV, asV, slV⟩ := id V
  obtain ⟨D', cfC, kC, iC, fC, hD', gC, stC, -, -, asC, slC⟩ := id C
  cases hD.symm.trans hD'
  obtain ⟨D2, kD, e1, e2, e3, e4, e5⟩ := id E
  cases hD.symm.trans e1
  obtain ⟨c2, k2, i1, i2, i3, -⟩ := Cond.instantiable_spec wi
  cases e2.symm.trans i1
  cases e3.symm.trans i2
  obtain ⟨kU, u1, u2⟩ := al.2.2 _ _ e3
  have hB : Blank ST x D P.U := ⟨hD, ⟨knV, fun q hq => by rw [hq] at obV; cases obV⟩, by rw [al.findClass]; exact e2, kU, u1, by rw [u2]; exact i3, by rw [u2]; exact e5 i3⟩
  have F1 : Found ST "value" "[B" fV P.U := ⟨SBG.found_only al ⟨cfV, kV, iV, gV⟩, stV⟩
  have F2 : Found ST "coder" "B" fC P.U := ⟨SBG.found_only al ⟨cfC, kC, iC, gC⟩, stC⟩
  have hA : Ch b A P.U := ⟨⟨K.1, State.isArrayOf_alike al K.2.1, K.2.2, by omega⟩, hty⟩
  have hS : StaticIs P.U ST "COMPACT_STRINGS" "Z" (.int z) := by
    obtain ⟨cfS, iS, kS, fS, st, cS, t1, t2, t3, t4, t5, t6, t7⟩ := S
    exact StaticIs.there (s := { Z with heap := P.U.heap }) ⟨cfS, iS, kS, fS, st, cS, t1, t2, t3, t4, t5, (fun q => by rw [q] at t6; cases t6), t7⟩ al rfl
  obtain ⟨v, B, X', ⟨⟨hv, E', V', q1, q2, q3, q4, q5, q6, q7, q8, q9, q10, q11⟩, hl, hc, hs⟩, st⟩ := New1.pays x D fV fC b A z (tab_of (moved hZ hw)) hfr hlo m meth c P g ig mk _ X hg hsize hdg hW hn ⟨r1, r2, rfl, hB, F1, F2, hA, hS, hz, l0, l2, hp⟩
  have al' : Z.vm.Alike B.U.vm := hZ.alike.trans X'.warmed.alike
  have hsz : E'.slots.size = D.slots.size := by
    obtain ⟨-, -, -, kB, w1, w2, w3⟩ := q1
    obtain ⟨kB', y1, y2⟩ := al'.2.2 _ _ e3
    rw [q2.2.1] at w1
    cases w1.symm.trans y1
    rw [w3, e5 i3, y2]
  refine ⟨v, B, X', ⟨_, ⟨hv, ?_, ⟨by omega, fun y cy hy hn' => q10 y cy (by simpa using hn') hy, fun y cy hy => ?_⟩, q11, ⟨E', _, q1.1, by rw [q2.2.1]; exact e2, by rw [q2.2.1]; exact e3, by rw [q2.1]; exact obV, fun _ => by rw [hsz]; exact e5 i3⟩,
    ⟨E', cfV, kV, iV, fV, q1.1, gV, stV, by rw [q2.1]; exact knV, by rw [q2.1]; exact obV, by rw [q2.2.1]; exact asV, q3⟩, ⟨E', cfC, kC, iC, fC, q1.1, gC, stC, by rw [q2.1]; exact knV, by rw [q2.1]; exact obV, by rw [q2.2.1]; exact asC, q4⟩,
    ⟨V', ⟨q5.1, State.isArrayOf_alike al'.symm q5.2.1, q5.2.2.1⟩, q6, by rw [← al'.findClass]; exact q7, q8, fun j hj => by have := q9 j hj; rwa [Nat.zero_add] at this⟩, fun O n d w F n1 n2 => ?_⟩, hl, hc, hs⟩, st⟩
  · intro y hy
    simp only [List.mem_cons, List.not_mem_nil, or_false] at hy
    rcases hy with rfl | rfl <;> rfl
  · by_cases q : y = x
    · subst q
      cases hD.symm.trans hy
      exact ⟨E', q1.1, q2.2.1, q2.1, hsz⟩
    · exact ⟨cy, q10 y cy q hy, rfl, rfl, rfl⟩
  · obtain ⟨D3, cf, k, i, f, g1, g2, g3, g4, g5, g6, g7⟩ := F
    cases hD.symm.trans g1
    simp only [RoadKit.slotOf, g2, gV, gC, Option.map_some, Option.getD_some] at n1 n2
    exact ⟨E', cf, k, i, f, q1.1, g2, g3, by rw [q2.1]; exact g4, by rw [q2.1]; exact g5, by rw [q2.2.1]; exact g6, by rw [q2.2.2 f.slot (by simp [n1, n2])]; exact g7⟩
end StrChars.Road
namespace StrChars.Road
open Jvm Sem ClassFile Op Lib Jvm.Stand Jvm.Free Jvm.Free.XT
/-- WHAT COMES BACK, the byte[] as a list of values -/
def QA (Z : State) (x : Addr) (zn : Int32) (cs : List Int32) (h : Heap) (v : Option Value) (h' : Heap) (L : List Loc) : Prop := v = none ∧ (∀ y ∈ L, y.base = x) ∧ RoadKit.Keep h h' [x] ∧ h'.size = h.size + 1 ∧ RoadKit.Exa Z h' x ST ∧ RoadKit.Fld Z h' x ST "value" "[B" (.ref h.size) ∧ RoadKit.Fld Z h' x ST "coder" "B" (.int 0) ∧
  (∃ kb, Z.vm.findClass "[B" = some kb ∧ RoadKit.Arv Z h' h.size kb .byte zn (cs.map fun c => .int (lo8 c)) (.int 0)) ∧
  ∀ (O n d : String) (w : Value), RoadKit.Fld Z h x O n d w → RoadKit.slotOf Z O n d ≠ RoadKit.slotOf Z ST "value" "[B" → RoadKit.slotOf Z O n d ≠ RoadKit.slotOf Z ST "coder" "B" → RoadKit.Fld Z h' x O n d w
/-- **new String(chars) AT A CALL, THE ARRAYS AS LISTS**: the char[] at b holds cs, not empty, no char above 255 -/
theorem backArv {p : Program} {l : Launch} {e : Env} {R : Room} {s : State} {args : Array Value} {below : List Frame} {len W : Nat} {Z : State} {a0 : Array Value} {h : Heap} (hZ : Z.Warmed39 s.vm) (hw : ∀ d ∈ words, d.before a0 Z = true) {kI : Nat} (wi : (Jvm.Cond.instantiable ST kI).before a0 Z = true)
    {x b : Addr} {k : ClassId} {zn z : Int32} {cs : List Int32} {dv v0 c0 : Value} (E : RoadKit.Exa Z h x ST) (V : RoadKit.Fld Z h x ST "value" "[B" v0) (C : RoadKit.Fld Z h x ST "coder" "B" c0) (K : RoadKit.Arv Z h b k .char zn (cs.map Value.int) dv) (S : RoadKit.Sta Z h ST "COMPACT_STRINGS" "Z" (.int z)) (hz : ¬ z = 0)
    (hlen : zn.toNatClampNeg = cs.length) (h0 : 0 < cs.length) (hbig : cs.length ≤ 536870912) (hall : ∀ c ∈ cs, ¬ 255 < c) (hfr : 4 ≤ R.frames) (hlo : W + 65 ≤ R.locals) :
    Back l R p e below s args New1.yN len W (fun P a => a = #[.ref x, .ref b] ∧ P.U.heap = h ∧ P.cells + 1 ≤ R.cells ∧ P.slots + cs.length ≤ R.slots)
      (fun P _ v B => ∃ L, QA Z x zn cs h v B.U.heap L ∧ B.locs = P.locs ++ L ∧ B.cells = P.cells + 1 ∧ B.slots = P.slots + cs.length) := by
  obtain ⟨A, K1, K2, K3, K4, K5, K6⟩ := K
  have e : A.slots.size = cs.length := K3.trans hlen
  have hat : ∀ (i : Nat) (hi : i < cs.length), A.slots[i]? = some (.int cs[i]) := fun i hi => by rw [K5 i (by omega)]; simp [List.getD_eq_getElem?_getD, hi]
  have hcv : ∀ (i : Nat) (hi : i < cs.length), cv A i = cs[i] := fun i hi => by unfold cv; rw [hat i hi]
  have hty : Typed .char A := fun i v hv => by
    have hi : i < A.slots.size := (Array.getElem?_eq_some_iff.mp hv).1
    have q := K5 i hi
    rw [hv] at q
    rw [Option.some.inj q]
    exact K6 i hi
  refine Back.mono (back hZ hw wi E V C K1 hty S hz (by omega) (by omega) (fun i hi => by rw [hcv i (by omega)]; exact hall _ (List.getElem_mem _)) hfr hlo) (fun P a hp => ⟨hp.1, hp.2.1, hp.2.2.1, by rw [e]; exact hp.2.2.2⟩) (fun P a v B hp hq => ?_)
  obtain ⟨L, ⟨q1, q2, q3, q4, q5, q6, q7, ⟨V', v1, v2, v3, v4, v5⟩, q9⟩, hl, hc, hs⟩ := hq
  refine ⟨L, ⟨q1, q2, q3, q4, q5, q6, q7, ⟨V'.cls, v3, V', v1, rfl, by rw [v4, e, hlen], K4, fun i hi => ?_, fun i hi => ?_⟩, q9⟩, hl, hc, by rw [hs, e]⟩
  · have hi' : i < cs.length := by omega
    rw [v5 i (by omega), hcv i hi']; simp [List.getD_eq_getElem?_getD, hi']
  · have hi' : i < cs.length := by omega
    simp only [List.getD_eq_getElem?_getD, List.getElem?_map, List.getElem?_eq_getElem hi', Option.map_some, Option.getD_some]
    exact fits_lo8 _
end StrChars.Road
namespace StrChars.Road
open Jvm Sem ClassFile Op Lib Jvm.Stand Jvm.Free Jvm.Free.XT
/-- WHAT COMES BACK, in the writer's own shape -/
def QV (Z : State) (x : Addr) (N : Int32) (bs : List Int32) (h : Heap) (n0 : Nat) (v : Option Value) (h' : Heap) (L : List Loc) : Prop := v = none ∧ RoadKit.Fr n0 L ∧ RoadKit.Keep h h' [x] ∧ RoadKit.Exa Z h' x ST ∧ RoadKit.Fld Z h' x ST "coder" "B" (.int 0) ∧
  ∃ (t : Addr) (kb : ClassId), n0 ≤ t ∧ h.size ≤ t ∧ ¬ t = x ∧ RoadKit.Fld Z h' x ST "value" "[B" (.ref t) ∧ RoadKit.Arv Z h' t kb .byte N (bs.map Value.int) (.int 0)
/-- **new String(chars) AT A CALL, FOR THE WRITER**: a char[] of n known ints, each 0 to 255 -/
theorem backV {p : Program} {l : Launch} {e : Env} {R : Room} {s : State} {args : Array Value} {below : List Frame} {len W : Nat} {Z : State} {a0 : Array Value} {h : Heap} (hZ : Z.Warmed39 s.vm) (hw : ∀ d ∈ words, d.before a0 Z = true) {kI : Nat} (wi : (Jvm.Cond.instantiable ST kI).before a0 Z = true)
    {x b : Addr} {kC : ClassId} {cs bs : List Int32} {d v0 c0 : Value} {z N : Int32} {n n0 : Nat} (hx0 : n0 ≤ x) (hh0 : n0 ≤ h.size) (E : RoadKit.Exa Z h x ST) (V : RoadKit.Fld Z h x ST "value" "[B" v0) (C : RoadKit.Fld Z h x ST "coder" "B" c0) (K : RoadKit.Arv Z h b kC .char N (cs.map Value.int) d) (S : RoadKit.Sta Z h ST "COMPACT_STRINGS" "Z" (.int z)) (hz : ¬ z = 0)
    (hn : cs.length = n) (hN : N = Int32.ofNat n) (l0 : 0 < n) (l2 : n ≤ 4000) (hp : ∀ c ∈ cs, ¬ c < 0 ∧ ¬ (255 : Int32) < c) (hb : bs = cs.map (fun c => c.toInt8.toInt32)) (hfr : 4 ≤ R.frames) (hlo : W + 65 ≤ R.locals) :
    Back l R p e below s args (⟨"java/lang/String", "<init>", "([C)V"⟩ : MethodName) len W (fun P a => a = #[.ref x, .ref b] ∧ P.U.heap = h ∧ P.cells + 1 ≤ R.cells ∧ P.slots + n ≤ R.slots)
      (fun P _ v B => ∃ L, QV Z x N bs h n0 v B.U.heap L ∧ B.locs = P.locs ++ L ∧ B.cells = P.cells + 1 ∧ B.slots = P.slots + n) := by
  subst hn hN hb
  refine Back.mono (backArv hZ hw wi E V C K S hz (n32 (by omega)) l0 (by omega) (fun c hc => (hp c hc).2) hfr hlo) (fun P a hp => hp) (fun P a v B hp hq => ?_)
  obtain ⟨L, ⟨q1, q2, q3, q4, q5, q6, q7, ⟨kb, v1, v2⟩, q9⟩, hl, hc, hs⟩ := hq
  exact ⟨L, ⟨q1, fun y hy => by rw [q2 y hy]; exact hx0, q3, q5, q7, h.size, kb, hh0, Nat.le_refl _, Nat.ne_of_gt E.lt, q6, by rw [List.map_map]; exact v2⟩, hl, hc, hs⟩
end StrChars.Road
namespace StrChars
open Jvm Sem ClassFile Op Lib Jvm.Stand Jvm.Free.XT Jvm.Free.ALB Jvm.Free.JM Jvm.Free
open Jvm.Lib.Cold (StaticIs)
def hi8 (x : Int32) : Int32 := lo8 (x >>> ((8 : Int32) &&& 31))
/-- what StringUTF16.getChar makes of two bytes -/
def pairCh (u v : Int32) : Int32 := (((u &&& 255) <<< ((0 : Int32) &&& 31)) ||| ((v &&& 255) <<< ((8 : Int32) &&& 31))).toUInt32.toUInt16.toUInt32.toInt32
theorem shr0 (c : Int32) : c >>> ((0 : Int32) &&& 31) = c := by
  have e : ((0 : Int32) &&& 31) = 0 := by decide
  rw [e]
  apply Int32.toBitVec_inj.mp
  rw [Int32.toBitVec_shiftRight]
  have e1 : ((0 : Int32).toBitVec.smod 32) = 0#32 := by decide
  rw [e1, BitVec.sshiftRight_eq']
  exact BitVec.sshiftRight_zero
theorem lo8_and (x : Int32) : (lo8 x &&& 255).toBitVec.toNat = x.toBitVec.toNat % 256 := by
  have h : (lo8 x).toBitVec = (x.toBitVec.signExtend 8).signExtend 32 := by rw [lo8, Int8.toBitVec_toInt32, Int32.toBitVec_toInt8]
  rw [Int32.toBitVec_and, BitVec.toNat_and, h]
  have e : ((x.toBitVec.signExtend 8).signExtend 32).toNat % 256 = x.toBitVec.toNat % 256 := by
    rw [BitVec.toNat_signExtend]
    have hlt := x.toBitVec.isLt
    simp only [BitVec.toNat_setWidth, BitVec.toNat_signExtend]
    split <;> split <;> omega
  rw [← e]
  exact Nat.and_two_pow_sub_one_eq_mod _ 8
theorem pair_says {c : Int32} (h0 : ¬ c < 0) (h1 : ¬ 65535 < c) : pairCh (lo8 c) (hi8 c) = c := by
  rw [Int32.lt_iff_toInt_lt] at h0 h1
  have e0 : (0 : Int32).toInt = 0 := rfl
  have e1 : (65535 : Int32).toInt = 65535 := rfl
  have hc : c.toInt = c.toBitVec.toNat := by
    have := c.toBitVec.isLt
    have e : c.toInt = c.toBitVec.toInt := rfl
    rw [e] at h0 h1
    rw [e]
    rw [BitVec.toInt_eq_toNat_cond] at h0 h1 ⊢
    split at h0 <;> split <;> omega
  have hn : c.toBitVec.toNat < 65536 := by omega
  have a1 := lo8_and c
  have a2 : (hi8 c &&& 255).toBitVec.toNat = c.toBitVec.toNat / 256 := by
    rw [hi8, lo8_and]
    have e : ((8 : Int32) &&& 31) = 8 := by decide
    rw [e, Int32.toBitVec_shiftRight]
    have e2 : ((8 : Int32).toBitVec.smod 32) = 8#32 := by decide
    rw [e2, BitVec.sshiftRight_eq', BitVec.toNat_sshiftRight_of_msb_false (by rw [BitVec.msb_eq_false_iff_two_mul_lt]; omega)]
    show c.toBitVec.toNat >>> 8 % 256 = _
    rw [Nat.shiftRight_eq_div_pow]
    omega
  unfold pairCh
  apply Int32.toBitVec_inj.mp
  apply BitVec.eq_of_toNat_eq
  have f0 : ((0 : Int32) &&& 31) = 0 := by decide
  have f8 : ((8 : Int32) &&& 31) = 8 := by decide
  rw [f0, f8]
  have g : (((lo8 c &&& 255) <<< (0 : Int32)) ||| ((hi8 c &&& 255) <<< (8 : Int32))).toBitVec.toNat = c.toBitVec.toNat := by
    rw [Int32.toBitVec_or, Int32.toBitVec_shiftLeft, Int32.toBitVec_shiftLeft]
    have s0 : ((0 : Int32).toBitVec.smod 32) = 0#32 := by decide
    have s8 : ((8 : Int32).toBitVec.smod 32) = 8#32 := by decide
    rw [s0, s8, BitVec.toNat_or]
    simp only [BitVec.shiftLeft_eq', BitVec.toNat_shiftLeft, a1, a2]
    show (c.toBitVec.toNat % 256) <<< 0 % 2 ^ 32 ||| (c.toBitVec.toNat / 256) <<< 8 % 2 ^ 32 = _
    rw [Nat.shiftLeft_zero, Nat.mod_eq_of_lt (show c.toBitVec.toNat % 256 < 2 ^ 32 by omega), Nat.mod_eq_of_lt (show (c.toBitVec.toNat / 256) <<< 8 < 2 ^ 32 by rw [Nat.shiftLeft_eq]; omega), Nat.or_comm, ← Nat.shiftLeft_add_eq_or_of_lt (by omega), Nat.shiftLeft_eq]
    omega
  show BitVec.toNat (((((lo8 c &&& 255) <<< (0 : Int32)) ||| ((hi8 c &&& 255) <<< (8 : Int32))).toBitVec.setWidth 16).setWidth 32) = _
  rw [BitVec.toNat_setWidth, BitVec.toNat_setWidth, g]
  omega
end StrChars
namespace StrChars
open Jvm Sem ClassFile Op Lib Jvm.Stand Jvm.Free.XT Jvm.Free.ALB Jvm.Free.JM Jvm.Free
open Jvm.Lib.Cold (StaticIs)
theorem shr1 {n : Nat} (h : 2 * n < 2 ^ 31) : Int32.ofNat (2 * n) >>> ((1 : Int32) &&& 31) = Int32.ofNat n := by
  have e : ((1 : Int32) &&& 31) = 1 := by decide
  rw [e]
  apply Int32.toBitVec_inj.mp
  rw [Int32.toBitVec_shiftRight]
  have e1 : ((1 : Int32).toBitVec.smod 32) = 1#32 := by decide
  have hm : (BitVec.ofNat 32 (2 * n)).toNat = 2 * n := by rw [BitVec.toNat_ofNat, Nat.mod_eq_of_lt (by omega)]
  rw [e1, BitVec.sshiftRight_eq']
  apply BitVec.eq_of_toNat_eq
  show ((BitVec.ofNat 32 (2 * n)).sshiftRight 1).toNat = (BitVec.ofNat 32 n).toNat
  rw [BitVec.toNat_sshiftRight_of_msb_false (by rw [BitVec.msb_eq_false_iff_two_mul_lt, hm]; omega), hm, BitVec.toNat_ofNat, Nat.shiftRight_eq_div_pow]
  omega
/-- charAt's cast of a byte read back -/
def chr8 (u : Int32) : Int32 := (u &&& 255).toUInt32.toUInt16.toUInt32.toInt32
theorem chr8_lo8 {c : Int32} (h0 : ¬ c < 0) (h1 : ¬ 255 < c) : chr8 (lo8 c) = c := by
  have t : ∀ k : Fin 256, (Int32.ofNat k.val).toUInt32.toUInt16.toUInt32.toInt32 = Int32.ofNat k.val := by decide +kernel
  unfold chr8
  rw [lo8_mask h0 h1]
  rw [Int32.lt_iff_toInt_lt] at h0 h1
  have e0 : (0 : Int32).toInt = 0 := rfl
  have e1 : (255 : Int32).toInt = 255 := rfl
  obtain ⟨k, hk⟩ : ∃ k : Nat, c.toInt = k := ⟨c.toInt.toNat, by omega⟩
  have hx : c = Int32.ofNat k := Int32.toInt_inj.mp (by rw [hk, Int32.toInt_ofNat_small (by omega)])
  rw [hx]
  exact t ⟨k, by omega⟩
theorem narrow_ch {c : Int32} (h0 : ¬ c < 0) (h1 : ¬ 65535 < c) : narrow .char (.int c) = .int c := by
  have q : narrow .char (.int (pairCh (lo8 c) (hi8 c))) = .int (pairCh (lo8 c) (hi8 c)) := narrow_c _
  rwa [pair_says h0 h1] at q
/-- the array's cell V codes the n chars f 0 .. f (n - 1) by the coder cd, as the JDK does: coder 1 just where some char is above 255 -/
def Cod (cd : Int32) (n : Nat) (f : Nat → Int32) (V : Cell) : Prop := (cd = 0 ∧ V.slots.size = n ∧ ∀ j, j < n → V.slots[j]? = some (.int (lo8 (f j))) ∧ ¬ 255 < f j) ∨ (cd = 1 ∧ V.slots.size = 2 * n ∧ (∀ j, j < n → V.slots[2 * j]? = some (.int (lo8 (f j))) ∧ V.slots[2 * j + 1]? = some (.int (hi8 (f j)))) ∧ ∃ j, j < n ∧ 255 < f j)
theorem Cod.cd {cd : Int32} {n : Nat} {f : Nat → Int32} {V : Cell} (h : Cod cd n f V) : cd = 0 ∨ cd = 1 := h.imp (fun q => q.1) fun q => q.1
theorem Cod.len {cd : Int32} {n : Nat} {f : Nat → Int32} {V : Cell} (h : Cod cd n f V) (hs : V.slots.size < 2 ^ 31) : Int32.ofNat V.slots.size >>> (cd &&& 31) = Int32.ofNat n := by
  rcases h with ⟨rfl, h, -⟩ | ⟨rfl, h, -⟩
  · rw [shr0, h]
  · rw [h, shr1 (by omega)]
/-- **x is a String of the n chars f 0 .. f (n - 1)**, Latin-1 or UTF-16; its array at t has the cell V -/
def Txt (x t : Addr) (V : Cell) (cd : Int32) (n : Nat) (f : Nat → Int32) (U : State) : Prop := Exact "java/lang/String" x U ∧ Has x "java/lang/String" "value" "[B" (.ref t) U ∧ Has x "java/lang/String" "coder" "B" (.int cd) U ∧ XT.Arr .byte t V U ∧ Cod cd n f V ∧ ∀ j, j < n → ¬ f j < 0 ∧ ¬ 65535 < f j
theorem Txt.mv {x t : Addr} {V : Cell} {cd : Int32} {n : Nat} {f : Nat → Int32} {U U' : State} (h : Txt x t V cd n f U) (hal : U.vm.Alike U'.vm) (hh : U'.heap = U.heap) : Txt x t V cd n f U' := ⟨h.1.mv hal hh, h.2.1.mv hal hh, h.2.2.1.mv hal hh, h.2.2.2.1.mv hal hh, h.2.2.2.2⟩
namespace Cdr
def yN : MethodName := ⟨"java/lang/String", "coder", "()B"⟩
abbrev yB : ByteArray := jdk_42_method_152_code
theorem d0 : decode yB 0 = .ok (.getstatic 38, 3) := by decide +kernel
theorem d3 : decode yB 3 = .ok (.ifCond (.eq) 10, 3) := by decide +kernel
theorem d6 : decode yB 6 = .ok (.aload_n 0, 1) := by decide +kernel
theorem d7 : decode yB 7 = .ok (.getfield 15, 3) := by decide +kernel
theorem d10 : decode yB 10 = .ok (.goto 4, 3) := by decide +kernel
theorem d14 : decode yB 14 = .ok (.ireturn, 1) := by decide +kernel
def site : List Cond := [.fieldLink "java/lang/String" 38 "java/lang/String" "COMPACT_STRINGS" "Z", .fieldLink "java/lang/String" 15 "java/lang/String" "coder" "B"]
def tab : Cond := tabOf yN yB 1 (some .byte) site
def P (x : Addr) (cd z : Int32) (args : Array Value) (s : State) : Prop := args = #[.ref x] ∧ Has x "java/lang/String" "coder" "B" (.int cd) s ∧ (cd = 0 ∨ cd = 1) ∧ StaticIs s "java/lang/String" "COMPACT_STRINGS" "Z" (.int z) ∧ ¬ z = 0
def E (cd : Int32) (r : Option Value) (s u : State) : Prop := XT.PureE (some (.int cd)) r s u
theorem law (l : Launch) (x : Addr) (cd z : Int32) : Law l yN 1 0 0 0 yB 1 (some .byte) site (P x cd z) (E cd) [] 0 0 := by
  refine Law.of_walk (plainFor_of_name (by decide +kernel)) (by decide +kernel) (by decide +kernel) (by decide) (fun _ _ h => by rw [h.1]; rfl) (fun _ U U' hal hh h => ⟨h.1, h.2.1.mv hal hh, h.2.2.1, h.2.2.2.1.there hal hh, h.2.2.2.2⟩) (fun r U U' V V' h1 hal h2 h => XT.PureE.mv r U U' V V' h1 hal h2 h) ?_
  intro p e s m args below meth c s₁ X0 hexec hbytes hml hret hlk hnm hown hh0 W hP
  obtain ⟨rfl, hx, hc, s1, hz⟩ := hP
  have c1 : Steps p.tables e below (s₁.setTop (entryFrame m #[.ref x] 1)) (s₁.setTop (mkF m 0 #[.val (.ref x)] [])) := entry rfl
  obtain ⟨T2, X2, q2, st2⟩ := X0.sget hexec hown (wk W (.fieldLink "java/lang/String" 38 "java/lang/String" "COMPACT_STRINGS" "Z")) s1 (fun _ _ h => by rw [hh0]; exact h) (g := (mkF m 0 #[.val (.ref x)] [])) rfl (hb hbytes d0)
  have hh2 := q2.trans hh0
  have c3 : Steps p.tables e below (s₁.setTop (entryFrame m #[.ref x] 1)) (T2.setTop (mkF m 7 #[.val (.ref x)] [.ref x])) := (c1.trans (st2 _ (Steps.refl _))).trans (by
    refine XS.ifNo X2.here hexec rfl (hb hbytes d3) rfl (i0_eq_f hz) ?_
    refine XS.aloadN X2.here hexec rfl (hb hbytes d6) rfl rfl ?_
    exact Steps.refl _)
  obtain ⟨T4, X4, q4, st4⟩ := X2.hget hexec hown (wk W (.fieldLink "java/lang/String" 15 "java/lang/String" "coder" "B")) (hx.mv X2.warmed.alike hh2) (g := (mkF m 7 #[.val (.ref x)] [.ref x])) rfl (rest := []) rfl (hb hbytes d7)
  have c5 : Steps p.tables e below (s₁.setTop (entryFrame m #[.ref x] 1)) (T4.setTop (mkF m 14 #[.val (.ref x)] [.int cd])) := (c3.trans (st4 _ (Steps.refl _))).trans (by
    refine XS.goto X4.here hexec rfl (pc0 := 10) rfl (hb hbytes d10) (by decide) rfl ?_
    exact Steps.refl _)
  exact ⟨T4, some (.int cd), _, _, _, X4, rfl, rfl, rfl, (fun h => by cases h), ⟨rfl, q4.trans hh2⟩, fun fs hl => c5.trans (X4.ireturnOut hexec hret (by rcases hc with rfl | rfl <;> rfl) (Or.inr (Or.inr (Or.inl rfl))) (hb hbytes d14) hl)⟩
end Cdr
namespace Len
def yN : MethodName := ⟨"java/lang/String", "length", "()I"⟩
abbrev yB : ByteArray := jdk_42_method_54_code
theorem d0 : decode yB 0 = .ok (.aload_n 0, 1) := by decide +kernel
theorem d1 : decode yB 1 = .ok (.getfield 9, 3) := by decide +kernel
theorem d4 : decode yB 4 = .ok (.arraylength, 1) := by decide +kernel
theorem d5 : decode yB 5 = .ok (.aload_n 0, 1) := by decide +kernel
theorem d6 : decode yB 6 = .ok (.invokevirtual 335, 3) := by decide +kernel
theorem d9 : decode yB 9 = .ok (.ishr, 1) := by decide +kernel
theorem d10 : decode yB 10 = .ok (.ireturn, 1) := by decide +kernel
def site : List Cond := [.fieldLink "java/lang/String" 9 "java/lang/String" "value" "[B", Cdr.tab] ++ virtW "java/lang/String" 335 "java/lang/String" Cdr.yN Cdr.yN
def tab : Cond := tabOf yN yB 1 (some .int) site
def P (x t : Addr) (V : Cell) (cd : Int32) (n : Nat) (f : Nat → Int32) (z : Int32) (args : Array Value) (s : State) : Prop := args = #[.ref x] ∧ Txt x t V cd n f s ∧ StaticIs s "java/lang/String" "COMPACT_STRINGS" "Z" (.int z) ∧ ¬ z = 0
def E (n : Nat) (r : Option Value) (s u : State) : Prop := XT.PureE (some (.int (Int32.ofNat n))) r s u
/-- length() of a String of n chars, in either coding -/
theorem law (l : Launch) (x t : Addr) (V : Cell) (cd : Int32) (n : Nat) (f : Nat → Int32) (z : Int32) : Law l yN 1 0 1 13 yB 1 (some .int) site (P x t V cd n f z) (E n) [] 0 0 := by
  refine Law.of_walk (plainFor_of_name (by decide +kernel)) (by decide +kernel) (by decide +kernel) (by decide) (fun _ _ h => by rw [h.1]; rfl) (fun _ U U' hal hh h => ⟨h.1, h.2.1.mv hal hh, h.2.2.1.there hal hh, h.2.2.2⟩) (fun r U U' V V' h1 hal h2 h => XT.PureE.mv r U U' V V' h1 hal h2 h) ?_
  intro p e s m args below meth c s₁ X0 hexec hbytes hml hret hlk hnm hown hh0 W hP
  obtain ⟨rfl, hx, s1, hz⟩ := hP
  have v31 := hx.2.2.2.1.2.2.2
  have c1 : Steps p.tables e below (s₁.setTop (entryFrame m #[.ref x] 1)) (s₁.setTop (mkF m 1 #[.val (.ref x)] [.ref x])) := Steps.trans (entry rfl) (by
    show Steps p.tables e below (s₁.setTop (mkF m 0 #[.val (.ref x)] [])) _
    refine XS.aloadN X0.here hexec rfl (hb hbytes d0) rfl rfl ?_
    exact Steps.refl _)
  obtain ⟨T2, X2, q2, st2⟩ := X0.hget hexec hown (wk W (.fieldLink "java/lang/String" 9 "java/lang/String" "value" "[B")) (hx.mv X0.warmed.alike hh0).2.1 (g := (mkF m 1 #[.val (.ref x)] [.ref x])) rfl (rest := []) rfl (hb hbytes d1)
  have hh2 := q2.trans hh0
  have hx2 := hx.mv X2.warmed.alike hh2
  have c3 : Steps p.tables e below (s₁.setTop (entryFrame m #[.ref x] 1)) (T2.setTop (mkF m 6 #[.val (.ref x)] [.ref x, .int (Int32.ofNat V.slots.size)])) := (c1.trans (st2 _ (Steps.refl _))).trans (by
    refine X2.alen hexec hx2.2.2.2.1 rfl rfl (hb hbytes d4) ?_
    refine XS.aloadN X2.here hexec rfl (hb hbytes d5) rfl rfl ?_
    exact Steps.refl _)
  obtain ⟨v4, T4, X4, E4, g4⟩ := X2.callV hexec (Cdr.law l x cd z) hown (wks W (virtW "java/lang/String" 335 "java/lang/String" Cdr.yN Cdr.yN)) rfl (by decide) (wk W Cdr.tab) (W := 1) (Nat.le_of_ble_eq_true rfl) (Nat.le_of_ble_eq_true rfl) (Nat.le_refl _) (Nat.le_refl _) (hx2.1.fc X2.warmed.alike) hx2.1.is (g := (mkF m 6 #[.val (.ref x)] [.ref x, .int (Int32.ofNat V.slots.size)])) rfl (by rw [hml]; rfl) c3 (argsL := []) (rest := [.int (Int32.ofNat V.slots.size)]) rfl rfl (by show 2 * 0 + (1 + 0) ≤ _; decide) (hb hbytes d6) (⟨rfl, hx2.2.2.1, hx.2.2.2.2.1.cd, s1.there X2.warmed.alike hh2, hz⟩)
  obtain ⟨rfl, q4⟩ := E4
  have c5 : Steps p.tables e below (s₁.setTop (entryFrame m #[.ref x] 1)) (T4.setTop (mkF m 10 #[.val (.ref x)] [.int (Int32.ofNat V.slots.size >>> (cd &&& 31))])) := Steps.trans g4 (by
    refine ishr X4.here hexec rfl (hb hbytes d9) rfl ?_
    exact Steps.refl _)
  rw [hx.2.2.2.2.1.len v31] at c5
  exact ⟨T4, some (.int (Int32.ofNat n)), _, _, _, X4, rfl, rfl, rfl, (fun h => by cases h), ⟨rfl, q4.trans hh2⟩, fun fs hl => c5.trans (X4.ireturnOut hexec hret rfl (Or.inl rfl) (hb hbytes d10) hl)⟩
theorem pays {l : Launch} {R : Room} {p : Program} {e : Env} {below : List Frame} {s : State} {sargs : Array Value} {len W : Nat} (x t : Addr) (V : Cell) (cd : Int32) (n : Nat) (f : Nat → Int32) (z : Int32) (htab : tab.before sargs s = true) (hfr : 2 ≤ R.frames) (hlo : W + 25 ≤ R.locals) :
    Back l R p e below s sargs yN len W (fun A₁ a₁ => A₁.cells + 0 ≤ R.cells ∧ A₁.slots + 0 ≤ R.slots ∧ P x t V cd n f z a₁ A₁.U) (fun A₁ _ v₁ B₁ => E n v₁ A₁.U B₁.U ∧ B₁.locs = A₁.locs ++ [] ∧ B₁.cells = A₁.cells + 0 ∧ B₁.slots = A₁.slots + 0) :=
  (law l x t V cd n f z).pays htab hfr (by omega)
end Len
namespace IsL
def yN : MethodName := ⟨"java/lang/String", "isLatin1", "()Z"⟩
abbrev yB : ByteArray := jdk_42_method_154_code
theorem d0 : decode yB 0 = .ok (.getstatic 38, 3) := by decide +kernel
theorem d3 : decode yB 3 = .ok (.ifCond (.eq) 14, 3) := by decide +kernel
theorem d6 : decode yB 6 = .ok (.aload_n 0, 1) := by decide +kernel
theorem d7 : decode yB 7 = .ok (.getfield 15, 3) := by decide +kernel
theorem d10 : decode yB 10 = .ok (.ifCond (.ne) 7, 3) := by decide +kernel
theorem d13 : decode yB 13 = .ok (.iconst 1, 1) := by decide +kernel
theorem d14 : decode yB 14 = .ok (.goto 4, 3) := by decide +kernel
theorem d17 : decode yB 17 = .ok (.iconst 0, 1) := by decide +kernel
theorem d18 : decode yB 18 = .ok (.ireturn, 1) := by decide +kernel
def site : List Cond := [.fieldLink "java/lang/String" 38 "java/lang/String" "COMPACT_STRINGS" "Z", .fieldLink "java/lang/String" 15 "java/lang/String" "coder" "B"]
def tab : Cond := tabOf yN yB 1 (some .boolean) site
def P (x : Addr) (cd z : Int32) (args : Array Value) (s : State) : Prop := args = #[.ref x] ∧ Has x "java/lang/String" "coder" "B" (.int cd) s ∧ (cd = 0 ∨ cd = 1) ∧ StaticIs s "java/lang/String" "COMPACT_STRINGS" "Z" (.int z) ∧ ¬ z = 0
def E (cd : Int32) (r : Option Value) (s u : State) : Prop := XT.PureE (some (.int (1 - cd))) r s u
theorem law (l : Launch) (x : Addr) (cd z : Int32) : Law l yN 1 0 0 0 yB 1 (some .boolean) site (P x cd z) (E cd) [] 0 0 := by
  refine Law.of_walk (plainFor_of_name (by decide +kernel)) (by decide +kernel) (by decide +kernel) (by decide) (fun _ _ h => by rw [h.1]; rfl) (fun _ U U' hal hh h => ⟨h.1, h.2.1.mv hal hh, h.2.2.1, h.2.2.2.1.there hal hh, h.2.2.2.2⟩) (fun r U U' V V' h1 hal h2 h => XT.PureE.mv r U U' V V' h1 hal h2 h) ?_
  intro p e s m args below meth c s₁ X0 hexec hbytes hml hret hlk hnm hown hh0 W hP
  obtain ⟨rfl, hx, hc, s1, hz⟩ := hP
  have c1 : Steps p.tables e below (s₁.setTop (entryFrame m #[.ref x] 1)) (s₁.setTop (mkF m 0 #[.val (.ref x)] [])) := entry rfl
  obtain ⟨T2, X2, q2, st2⟩ := X0.sget hexec hown (wk W (.fieldLink "java/lang/String" 38 "java/lang/String" "COMPACT_STRINGS" "Z")) s1 (fun _ _ h => by rw [hh0]; exact h) (g := (mkF m 0 #[.val (.ref x)] [])) rfl (hb hbytes d0)
  have hh2 := q2.trans hh0
  have c3 : Steps p.tables e below (s₁.setTop (entryFrame m #[.ref x] 1)) (T2.setTop (mkF m 7 #[.val (.ref x)] [.ref x])) := (c1.trans (st2 _ (Steps.refl _))).trans (by
    refine XS.ifNo X2.here hexec rfl (hb hbytes d3) rfl (i0_eq_f hz) ?_
    refine XS.aloadN X2.here hexec rfl (hb hbytes d6) rfl rfl ?_
    exact Steps.refl _)
  obtain ⟨T4, X4, q4, st4⟩ := X2.hget hexec hown (wk W (.fieldLink "java/lang/String" 15 "java/lang/String" "coder" "B")) (hx.mv X2.warmed.alike hh2) (g := (mkF m 7 #[.val (.ref x)] [.ref x])) rfl (rest := []) rfl (hb hbytes d7)
  have c5 : Steps p.tables e below (s₁.setTop (entryFrame m #[.ref x] 1)) (T4.setTop (mkF m 10 #[.val (.ref x)] [.int cd])) := c3.trans (st4 _ (Steps.refl _))
  have c6 : Steps p.tables e below (s₁.setTop (entryFrame m #[.ref x] 1)) (T4.setTop (mkF m 18 #[.val (.ref x)] [.int (1 - cd)])) := by
    rcases hc with rfl | rfl
    · exact c5.trans (by
        refine XS.ifNo X4.here hexec rfl (hb hbytes d10) rfl (i0_ne_f rfl) ?_
        refine iconstV X4.here hexec rfl 1 (hb hbytes d13) (by decide) ?_
        refine XS.goto X4.here hexec rfl (pc0 := 14) rfl (hb hbytes d14) (by decide) rfl ?_
        exact Steps.refl _)
    · exact c5.trans (by
        refine XS.ifYes X4.here hexec rfl (pc0 := 10) rfl (hb hbytes d10) rfl (i0_ne_t (by decide)) (by decide) rfl ?_
        refine iconstV X4.here hexec rfl 0 (hb hbytes d17) (by decide) ?_
        exact Steps.refl _)
  exact ⟨T4, some (.int (1 - cd)), _, _, _, X4, rfl, rfl, rfl, (fun h => by cases h), ⟨rfl, q4.trans hh2⟩, fun fs hl => c6.trans (X4.ireturnOut hexec hret (by rcases hc with rfl | rfl <;> rfl) (Or.inr (Or.inl rfl)) (hb hbytes d18) hl)⟩
end IsL
namespace LChA
def yN : MethodName := ⟨"java/lang/StringLatin1", "charAt", "([BI)C"⟩
abbrev yB : ByteArray := jdk_43_method_2_code
theorem d0 : decode yB 0 = .ok (.iload_n 1, 1) := by decide +kernel
theorem d1 : decode yB 1 = .ok (.aload_n 0, 1) := by decide +kernel
theorem d2 : decode yB 2 = .ok (.arraylength, 1) := by decide +kernel
theorem d3 : decode yB 3 = .ok (.invokestatic 9, 3) := by decide +kernel
theorem d6 : decode yB 6 = .ok (.aload_n 0, 1) := by decide +kernel
theorem d7 : decode yB 7 = .ok (.iload_n 1, 1) := by decide +kernel
theorem d8 : decode yB 8 = .ok (.baload, 1) := by decide +kernel
theorem d9 : decode yB 9 = .ok (.sipush 255, 3) := by decide +kernel
theorem d12 : decode yB 12 = .ok (.iand, 1) := by decide +kernel
theorem d13 : decode yB 13 = .ok (.i2c, 1) := by decide +kernel
theorem d14 : decode yB 14 = .ok (.ireturn, 1) := by decide +kernel
def site : List Cond := [JO.Str_checkIndex.tab] ++ staticW "java/lang/StringLatin1" 9 JO.Str_checkIndex.yN
def tab : Cond := tabOf yN yB 2 (some .char) site
def P (t : Addr) (V : Cell) (i : Nat) (u : Int32) (fm : Value) (args : Array Value) (s : State) : Prop := args = #[.ref t, .int (Int32.ofNat i)] ∧ XT.Arr .byte t V s ∧ V.slots[i]? = some (.int u) ∧ (StaticIs s "jdk/internal/util/Preconditions" "SIOOBE_FORMATTER" "Ljava/util/function/BiFunction;" fm ∧ fm.isRef = true)
def E (u : Int32) (r : Option Value) (s w : State) : Prop := XT.PureE (some (.int (chr8 u))) r s w
theorem law (l : Launch) (t : Addr) (V : Cell) (i : Nat) (u : Int32) (fm : Value) : Law l yN 2 2 2 27 yB 2 (some .char) site (P t V i u fm) (E u) [] 0 0 := by
  refine Law.of_walk (plainFor_of_name (by decide +kernel)) (by decide +kernel) (by decide +kernel) (by decide) (fun _ _ h => by rw [h.1]; rfl) (fun _ U U' hal hh h => ⟨h.1, h.2.1.mv hal hh, h.2.2.1, h.2.2.2.1.there hal hh, h.2.2.2.2⟩) (fun r U U' V V' h1 hal h2 h => XT.PureE.mv r U U' V V' h1 hal h2 h) ?_
  intro p e s m args below meth c s₁ X0 hexec hbytes hml hret hlk hnm hown hh0 W hP
  obtain ⟨rfl, hV, hu, s1, rf⟩ := hP
  have v31 := hV.2.2.2
  have hi : i < V.slots.size := (Array.getElem?_eq_some_iff.mp hu).1
  have c1 : Steps p.tables e below (s₁.setTop (entryFrame m #[.ref t, .int (Int32.ofNat i)] 2)) (s₁.setTop (mkF m 0 #[.val (.ref t), .val (.int (Int32.ofNat i))] [])) := entry rfl
  have c2 : Steps p.tables e below (s₁.setTop (entryFrame m #[.ref t, .int (Int32.ofNat i)] 2)) (s₁.setTop (mkF m 3 #[.val (.ref t), .val (.int (Int32.ofNat i))] [.int (Int32.ofNat V.slots.size), .int (Int32.ofNat i)])) := c1.trans (by
    refine XS.iloadN X0.here hexec rfl (hb hbytes d0) rfl ?_
    refine XS.aloadN X0.here hexec rfl (hb hbytes d1) rfl rfl ?_
    refine X0.alen hexec (hV.mv X0.warmed.alike hh0) rfl rfl (hb hbytes d2) ?_
    exact Steps.refl _)
  obtain ⟨v3, T3, X3, E3, g3⟩ := X0.callS hexec (JO.Str_checkIndex.law l (Int32.ofNat i) (Int32.ofNat V.slots.size) fm) hown (wks W (staticW "java/lang/StringLatin1" 9 JO.Str_checkIndex.yN)) (wk W JO.Str_checkIndex.tab) (W := 0) (Nat.le_of_ble_eq_true rfl) (Nat.le_of_ble_eq_true rfl) (Nat.le_refl _) (Nat.le_refl _) (g := (mkF m 3 #[.val (.ref t), .val (.int (Int32.ofNat i))] [.int (Int32.ofNat V.slots.size), .int (Int32.ofNat i)])) rfl (by rw [hml]; rfl) c2 (argsL := [.int (Int32.ofNat i), .int (Int32.ofNat V.slots.size)]) (rest := []) rfl rfl (by show 2 * 0 + 0 ≤ _; decide) (hb hbytes d3) (⟨rfl, rf, s1.there X0.warmed.alike hh0, Int32.ofNat_not_neg (by omega), lt32 v31 hi⟩)
  obtain ⟨rfl, q3⟩ := E3
  have hh3 := q3.trans hh0
  have c4 : Steps p.tables e below (s₁.setTop (entryFrame m #[.ref t, .int (Int32.ofNat i)] 2)) (T3.setTop (mkF m 14 #[.val (.ref t), .val (.int (Int32.ofNat i))] [.int (chr8 u)])) := Steps.trans g3 (by
    refine XS.aloadN X3.here hexec rfl (hb hbytes d6) rfl rfl ?_
    refine XS.iloadN X3.here hexec rfl (hb hbytes d7) rfl ?_
    refine X3.aget hexec (hV.mv X3.warmed.alike hh3) rfl hu rfl rfl (hb hbytes d8) ?_
    refine sipushV X3.here hexec rfl 255 (hb hbytes d9) (by decide) ?_
    refine XS.iand X3.here hexec rfl (hb hbytes d12) rfl ?_
    refine i2c X3.here hexec rfl (hb hbytes d13) rfl ?_
    exact Steps.refl _)
  exact ⟨T3, some (.int (chr8 u)), _, _, _, X3, rfl, rfl, rfl, (fun h => by cases h), ⟨rfl, hh3⟩, fun fs hl => c4.trans (X3.ireturnOut hexec hret (narrow_c _) (Or.inr (Or.inr (Or.inr (Or.inl rfl)))) (hb hbytes d14) hl)⟩
end LChA
end StrChars
namespace StrChars.Road
open Jvm Sem ClassFile Op Lib Jvm.Stand Jvm.Free Jvm.Free.XT
open Jvm.Lib.Cold (StaticIs)
theorem consq {a : Array Value} {s : State} {c : Jvm.Cond} {L : List Jvm.Cond} (h0 : c.before a s = true) (h : ∀ w ∈ L, w.before a s = true) : ∀ w ∈ c :: L, w.before a s = true := fun w hw => (List.mem_cons.mp hw).elim (fun e => e ▸ h0) (h w)
/-- the words of String.length(), either coding -/
abbrev wordsLen : List Jvm.Cond := [.code Len.yN Len.yB 1 (some .int), .initialized ST, .fieldLink ST 9 ST "value" "[B", .fieldLink ST 38 ST "COMPACT_STRINGS" "Z", .fieldLink ST 15 ST "coder" "B", .code Cdr.yN Cdr.yB 1 (some .byte), .methodLink ST 335 Cdr.yN, .declares Cdr.yN, .selects ST Cdr.yN Cdr.yN, .instanceMethod Cdr.yN]
theorem tabLen_of {a : Array Value} {s : State} (h : ∀ w ∈ wordsLen, w.before a s = true) : Len.tab.before a s = true := by
  have hc : Cdr.tab.before a s = true := unparts (wk h (.code Cdr.yN Cdr.yB 1 (some .byte))) (wks h (.initialized Cdr.yN.cls :: Cdr.site))
  have q := consq hc h
  exact unparts (wk q (.code Len.yN Len.yB 1 (some .int))) (wks q (.initialized Len.yN.cls :: Len.site))
theorem movedLen {Z s : State} {a0 args : Array Value} (hZ : Z.Warmed39 s.vm) (hw : ∀ d ∈ wordsLen, d.before a0 Z = true) : ∀ d ∈ wordsLen, d.before args s = true := fun d hd => by
  have q := hw d hd
  have t : ∀ d ∈ wordsLen, d = .arrayClass .byte ∨ (d.onTables && d.keepsFace) = true := by decide +kernel
  rcases t d hd with rfl | t
  · exact RoadKit.mvA hZ q
  · exact RoadKit.mv hZ q t
/-- the bytes of the chars cs, low before high -/
def wideBytes : List Int32 → List Value
  | [] => []
  | c :: cs => .int (lo8 c) :: .int (hi8 c) :: wideBytes cs
theorem wide_lo (d : Value) : ∀ (cs : List Int32) (j : Nat), j < cs.length → (wideBytes cs).getD (2 * j) d = .int (lo8 (cs.getD j 0))
  | [], j, h => absurd h (Nat.not_lt_zero j)
  | c :: cs, 0, _ => rfl
  | c :: cs, j + 1, h => by
    have q := wide_lo d cs j (by simpa using h)
    rw [show 2 * (j + 1) = 2 * j + 1 + 1 from by omega]
    simpa [wideBytes] using q
theorem wide_hi (d : Value) : ∀ (cs : List Int32) (j : Nat), j < cs.length → (wideBytes cs).getD (2 * j + 1) d = .int (hi8 (cs.getD j 0))
  | [], j, h => absurd h (Nat.not_lt_zero j)
  | c :: cs, 0, _ => rfl
  | c :: cs, j + 1, h => by
    have q := wide_hi d cs j (by simpa using h)
    rw [show 2 * (j + 1) + 1 = 2 * j + 1 + 1 + 1 from by omega]
    simpa [wideBytes] using q
theorem low_at (d : Value) (cs : List Int32) (j : Nat) (h : j < cs.length) : (cs.map fun c => Value.int (lo8 c)).getD j d = .int (lo8 (cs.getD j 0)) := by
  simp [List.getD_eq_getElem?_getD, h]
/-- an array of N2 bytes vs codes the chars cs by the coder cd -/
def CodA (cs : List Int32) (cd N2 : Int32) (vs : List Value) : Prop := (cd = 0 ∧ N2 = Int32.ofNat cs.length ∧ vs = (cs.map fun c => Value.int (lo8 c)) ∧ ∀ c ∈ cs, ¬ 255 < c) ∨ (cd = 1 ∧ N2 = Int32.ofNat (2 * cs.length) ∧ vs = wideBytes cs ∧ ∃ c ∈ cs, 255 < c)
theorem CodA.cod {cs : List Int32} {cd N2 : Int32} {vs : List Value} {V : Cell} (h : CodA cs cd N2 vs) (hn : 2 * cs.length < 2 ^ 31) (hs : V.slots.size = N2.toNatClampNeg) (hv : RoadKit.Has V vs (.int 0)) : Cod cd cs.length (fun j => cs.getD j 0) V := by
  rcases h with ⟨rfl, rfl, rfl, h⟩ | ⟨rfl, rfl, rfl, c, hc, hw⟩
  · rw [n32 (by omega)] at hs
    exact Or.inl ⟨rfl, hs, fun j hj => ⟨by rw [hv j (by omega), low_at _ _ _ hj], by
      have e : cs.getD j 0 = cs[j] := by simp [List.getD_eq_getElem?_getD, hj]
      show ¬ 255 < cs.getD j 0
      rw [e]; exact h _ (List.getElem_mem _)⟩⟩
  · rw [n32 (by omega)] at hs
    obtain ⟨j, hj, rfl⟩ := List.getElem_of_mem hc
    exact Or.inr ⟨rfl, hs, fun j hj => ⟨by rw [hv _ (by omega), wide_lo _ _ _ hj], by rw [hv _ (by omega), wide_hi _ _ _ hj]⟩, j, hj, by
      have e : cs.getD j 0 = cs[j] := by simp [List.getD_eq_getElem?_getD, hj]
      show 255 < cs.getD j 0
      rw [e]; exact hw⟩
/-- an object of exactly java/lang/String, its two fields found: as the laws ask it -/
theorem strObj {Z U : State} {a0 : Array Value} {kI : Nat} (wi : (Jvm.Cond.instantiable ST kI).before a0 Z = true) (al : Z.vm.Alike U.vm) {x : Addr} {v0 c0 : Value} (E : RoadKit.Exa Z U.heap x ST) (V : RoadKit.Fld Z U.heap x ST "value" "[B" v0) (C : RoadKit.Fld Z U.heap x ST "coder" "B" c0) :
    ∃ (D : Cell) (fV fC : Field), Blank ST x D U ∧ Found ST "value" "[B" fV U ∧ Found ST "coder" "B" fC U ∧ D.slots[fV.slot]? = some v0 ∧ D.slots[fC.slot]? = some c0 ∧ RoadKit.slotOf Z ST "value" "[B" = fV.slot ∧ RoadKit.slotOf Z ST "coder" "B" = fC.slot := by
  obtain ⟨D, cfV, kV, iV, fV, hD, gV, stV, knV, obV, asV, slV⟩ := V
  obtain ⟨D', cfC, kC, iC, fC, hD', gC, stC, -, -, asC, slC⟩ := C
  cases hD.symm.trans hD'
  obtain ⟨D2, kD, e1, e2, e3, e4, e5⟩ := E
  cases hD.symm.trans e1
  obtain ⟨c2, k2, i1, i2, i3, -⟩ := Cond.instantiable_spec wi
  cases e2.symm.trans i1
  cases e3.symm.trans i2
  obtain ⟨kU, u1, u2⟩ := al.2.2 _ _ e3
  exact ⟨D, fV, fC, ⟨hD, ⟨knV, fun q hq => by rw [hq] at obV; cases obV⟩, by rw [al.findClass]; exact e2, kU, u1, by rw [u2]; exact i3, by rw [u2]; exact e5 i3⟩, ⟨SBG.found_only al ⟨cfV, kV, iV, gV⟩, stV⟩, ⟨SBG.found_only al ⟨cfC, kC, iC, gC⟩, stC⟩, slV, slC, by simp [RoadKit.slotOf, gV], by simp [RoadKit.slotOf, gC]⟩
theorem sta_is {Z U : State} (al : Z.vm.Alike U.vm) {C n d : String} {v : Value} (S : RoadKit.Sta Z U.heap C n d v) : StaticIs U C n d v := by
  obtain ⟨cfS, iS, kS, fS, st, cS, t1, t2, t3, t4, t5, t6, t7⟩ := S
  exact StaticIs.there (s := { Z with heap := U.heap }) ⟨cfS, iS, kS, fS, st, cS, t1, t2, t3, t4, t5, (fun q => by rw [q] at t6; cases t6), t7⟩ al rfl
/-- **length() OF SUCH A STRING** -/
theorem lenW {p : Program} {l : Launch} {e : Env} {R : Room} {s : State} {args : Array Value} {below : List Frame} {len W : Nat} {Z : State} {a0 : Array Value} {h : Heap} (hZ : Z.Warmed39 s.vm) (hw : ∀ d ∈ wordsLen, d.before a0 Z = true) {kI : Nat} (wi : (Jvm.Cond.instantiable ST kI).before a0 Z = true)
    {x t : Addr} {kb : ClassId} {cs : List Int32} {cd N2 z : Int32} {vs : List Value} (E : RoadKit.Exa Z h x ST) (V : RoadKit.Fld Z h x ST "value" "[B" (.ref t)) (C : RoadKit.Fld Z h x ST "coder" "B" (.int cd)) (K : RoadKit.Arv Z h t kb .byte N2 vs (.int 0)) (hc : CodA cs cd N2 vs) (hb : ∀ c ∈ cs, ¬ c < 0 ∧ ¬ (65535 : Int32) < c)
    (S : RoadKit.Sta Z h ST "COMPACT_STRINGS" "Z" (.int z)) (hz : ¬ z = 0) (l2 : cs.length ≤ 4000) (hfr : 2 ≤ R.frames) (hlo : W + 25 ≤ R.locals) :
    Back l R p e below s args (⟨"java/lang/String", "length", "()I"⟩ : MethodName) len W (fun P a => a = #[.ref x] ∧ P.U.heap = h ∧ P.cells + 0 ≤ R.cells ∧ P.slots + 0 ≤ R.slots)
      (fun P _ v B => ∃ L, (v = some (.int (Int32.ofNat cs.length)) ∧ L = [] ∧ B.U.heap = h) ∧ B.locs = P.locs ++ L ∧ B.cells = P.cells + 0 ∧ B.slots = P.slots + 0) := by
  obtain ⟨A, K1, K2, K3, K4, K5, K6⟩ := K
  have hcod := hc.cod (by omega) K3 K5
  intro m meth c P g ig mk a X hg hsize hdg hW hn hp'
  obtain ⟨rfl, rfl, r1, r2⟩ := hp'
  have al : Z.vm.Alike P.U.vm := hZ.alike.trans X.warmed.alike
  obtain ⟨D, fV, fC, hB, F1, F2, g1, g2, -, -⟩ := strObj wi al E V C
  have hx : Txt x t A cd cs.length (fun j => cs.getD j 0) P.U := ⟨⟨_, hB.2.2.1, D, hB.1, rfl, by cases q : D.vm <;> first | rfl | exact absurd q (hB.2.1.2 _)⟩, Has.of hB F1 g1, Has.of hB F2 g2, ⟨K1.1, State.isArrayOf_alike al K1.2.1, K1.2.2, by rcases hcod with ⟨-, q, -⟩ | ⟨-, q, -⟩ <;> omega⟩, hcod, fun j hj => by
    have e : cs.getD j 0 = cs[j] := by simp [List.getD_eq_getElem?_getD, hj]
    show ¬ cs.getD j 0 < 0 ∧ ¬ 65535 < cs.getD j 0
    rw [e]; exact hb _ (List.getElem_mem _)⟩
  obtain ⟨v, B, X', ⟨⟨hv, hh⟩, hl, hk, hs⟩, st⟩ := Len.pays x t A cd cs.length (fun j => cs.getD j 0) z (tabLen_of (movedLen hZ hw)) hfr hlo m meth c P g ig mk _ X hg hsize hdg hW hn ⟨r1, r2, rfl, hx, sta_is al S, hz⟩
  exact ⟨v, B, X', ⟨[], ⟨hv, rfl, hh⟩, hl, hk, hs⟩, st⟩
end StrChars.Road
namespace StrChars.Road
open Jvm Sem ClassFile Op Lib Jvm.Stand Jvm.Free Jvm.Free.XT
open Jvm.Lib.Cold (StaticIs)
/-- the road's facts of a String, as the laws ask it -/
theorem txt_of {Z U : State} {a0 : Array Value} {kI : Nat} (wi : (Jvm.Cond.instantiable ST kI).before a0 Z = true) (al : Z.vm.Alike U.vm) {x t : Addr} {kb : ClassId} {cs : List Int32} {cd N2 : Int32} {vs : List Value} (E : RoadKit.Exa Z U.heap x ST) (V : RoadKit.Fld Z U.heap x ST "value" "[B" (.ref t)) (C : RoadKit.Fld Z U.heap x ST "coder" "B" (.int cd)) (K : RoadKit.Arv Z U.heap t kb .byte N2 vs (.int 0)) (hc : CodA cs cd N2 vs) (hb : ∀ c ∈ cs, ¬ c < 0 ∧ ¬ (65535 : Int32) < c) (l2 : cs.length ≤ 4000) :
    ∃ A, Txt x t A cd cs.length (fun j => cs.getD j 0) U := by
  obtain ⟨A, K1, K2, K3, K4, K5, K6⟩ := K
  have hcod := hc.cod (by omega) K3 K5
  obtain ⟨D, fV, fC, hB, F1, F2, g1, g2, -, -⟩ := strObj wi al E V C
  exact ⟨A, ⟨_, hB.2.2.1, D, hB.1, rfl, by cases q : D.vm <;> first | rfl | exact absurd q (hB.2.1.2 _)⟩, Has.of hB F1 g1, Has.of hB F2 g2, ⟨K1.1, State.isArrayOf_alike al K1.2.1, K1.2.2, by rcases hcod with ⟨-, q, -⟩ | ⟨-, q, -⟩ <;> omega⟩, hcod, fun j hj => by
    have e : cs.getD j 0 = cs[j] := by simp [List.getD_eq_getElem?_getD, hj]
    show ¬ cs.getD j 0 < 0 ∧ ¬ 65535 < cs.getD j 0
    rw [e]; exact hb _ (List.getElem_mem _)⟩
end StrChars.Road
namespace StrChars
open Jvm Sem ClassFile Op Lib Jvm.Stand Jvm.Free.XT Jvm.Free.ALB Jvm.Free.JM Jvm.Free
open Jvm.Lib.Cold (StaticIs)
namespace ChN
def yN : MethodName := ⟨"java/lang/String", "charAt", "(I)C"⟩
abbrev yB : ByteArray := jdk_42_method_56_code
theorem d0 : decode yB 0 = .ok (.aload_n 0, 1) := by decide +kernel
theorem d1 : decode yB 1 = .ok (.invokevirtual 492, 3) := by decide +kernel
theorem d4 : decode yB 4 = .ok (.ifCond (.eq) 12, 3) := by decide +kernel
theorem d7 : decode yB 7 = .ok (.aload_n 0, 1) := by decide +kernel
theorem d8 : decode yB 8 = .ok (.getfield 9, 3) := by decide +kernel
theorem d11 : decode yB 11 = .ok (.iload_n 1, 1) := by decide +kernel
theorem d12 : decode yB 12 = .ok (.invokestatic 495, 3) := by decide +kernel
theorem d15 : decode yB 15 = .ok (.ireturn, 1) := by decide +kernel
def site : List Cond := [.fieldLink "java/lang/String" 9 "java/lang/String" "value" "[B", IsL.tab, LChA.tab] ++ virtW "java/lang/String" 492 "java/lang/String" IsL.yN IsL.yN ++ staticW "java/lang/String" 495 LChA.yN
def tab : Cond := tabOf yN yB 2 (some .char) site
def P (x t : Addr) (V : Cell) (n : Nat) (f : Nat → Int32) (z : Int32) (fm : Value) (i : Nat) (args : Array Value) (s : State) : Prop := args = #[.ref x, .int (Int32.ofNat i)] ∧ Txt x t V 0 n f s ∧ i < n ∧ StaticIs s "java/lang/String" "COMPACT_STRINGS" "Z" (.int z) ∧ ¬ z = 0 ∧ StaticIs s "jdk/internal/util/Preconditions" "SIOOBE_FORMATTER" "Ljava/util/function/BiFunction;" fm ∧ fm.isRef = true
def E (f : Nat → Int32) (i : Nat) (r : Option Value) (s u : State) : Prop := XT.PureE (some (.int (f i))) r s u
/-- charAt(i) of a Latin-1 String of n chars, i < n: f i -/
theorem law (l : Launch) (x t : Addr) (V : Cell) (n : Nat) (f : Nat → Int32) (z : Int32) (fm : Value) (i : Nat) : Law l yN 2 1 3 40 yB 2 (some .char) site (P x t V n f z fm i) (E f i) [] 0 0 := by
  refine Law.of_walk (plainFor_of_name (by decide +kernel)) (by decide +kernel) (by decide +kernel) (by decide) (fun _ _ h => by rw [h.1]; rfl) (fun _ U U' hal hh h => ⟨h.1, h.2.1.mv hal hh, h.2.2.1, h.2.2.2.1.there hal hh, h.2.2.2.2.1, h.2.2.2.2.2.1.there hal hh, h.2.2.2.2.2.2⟩) (fun r U U' V V' h1 hal h2 h => XT.PureE.mv r U U' V V' h1 hal h2 h) ?_
  intro p e s m args below meth c s₁ X0 hexec hbytes hml hret hlk hnm hown hh0 W hP
  obtain ⟨rfl, hx, hi, s1, hz, s3, rf⟩ := hP
  have v31 := hx.2.2.2.1.2.2.2
  have hr := hx.2.2.2.2.2 i hi
  have hx0 := hx.mv X0.warmed.alike hh0
  have c1 : Steps p.tables e below (s₁.setTop (entryFrame m #[.ref x, .int (Int32.ofNat i)] 2)) (s₁.setTop (mkF m 1 #[.val (.ref x), .val (.int (Int32.ofNat i))] [.ref x])) := Steps.trans (entry rfl) (by
    show Steps p.tables e below (s₁.setTop (mkF m 0 #[.val (.ref x), .val (.int (Int32.ofNat i))] [])) _
    refine XS.aloadN X0.here hexec rfl (hb hbytes d0) rfl rfl ?_
    exact Steps.refl _)
  obtain ⟨v2, T2, X2, E2, g2⟩ := X0.callV hexec (IsL.law l x 0 z) hown (wks W (virtW "java/lang/String" 492 "java/lang/String" IsL.yN IsL.yN)) rfl (by decide) (wk W IsL.tab) (W := 0) (Nat.le_of_ble_eq_true rfl) (Nat.le_of_ble_eq_true rfl) (Nat.le_refl _) (Nat.le_refl _) (hx0.1.fc X0.warmed.alike) hx0.1.is (g := (mkF m 1 #[.val (.ref x), .val (.int (Int32.ofNat i))] [.ref x])) rfl (by rw [hml]; rfl) c1 (argsL := []) (rest := []) rfl rfl (by show 2 * 0 + 0 ≤ _; decide) (hb hbytes d1) (⟨rfl, hx0.2.2.1, hx.2.2.2.2.1.cd, s1.there X0.warmed.alike hh0, hz⟩)
  obtain ⟨rfl, q2⟩ := E2
  have hh2 := q2.trans hh0
  have hx2 := hx.mv X2.warmed.alike hh2
  obtain ⟨-, k1, k2⟩ | ⟨k0, -⟩ := hx.2.2.2.2.1
  · have c3 : Steps p.tables e below (s₁.setTop (entryFrame m #[.ref x, .int (Int32.ofNat i)] 2)) (T2.setTop (mkF m 8 #[.val (.ref x), .val (.int (Int32.ofNat i))] [.ref x])) := Steps.trans g2 (by
      refine XS.ifNo X2.here hexec rfl (hb hbytes d4) rfl (i0_eq_f (by decide)) ?_
      refine XS.aloadN X2.here hexec rfl (hb hbytes d7) rfl rfl ?_
      exact Steps.refl _)
    obtain ⟨T4, X4, q4, st4⟩ := X2.hget hexec hown (wk W (.fieldLink "java/lang/String" 9 "java/lang/String" "value" "[B")) hx2.2.1 (g := (mkF m 8 #[.val (.ref x), .val (.int (Int32.ofNat i))] [.ref x])) rfl (rest := []) rfl (hb hbytes d8)
    have hh4 := q4.trans hh2
    have c5 : Steps p.tables e below (s₁.setTop (entryFrame m #[.ref x, .int (Int32.ofNat i)] 2)) (T4.setTop (mkF m 12 #[.val (.ref x), .val (.int (Int32.ofNat i))] [.int (Int32.ofNat i), .ref t])) := (c3.trans (st4 _ (Steps.refl _))).trans (by
      refine XS.iloadN X4.here hexec rfl (hb hbytes d11) rfl ?_
      exact Steps.refl _)
    obtain ⟨v6, T6, X6, E6, g6⟩ := X4.callS hexec (LChA.law l t V i (lo8 (f i)) fm) hown (wks W (staticW "java/lang/String" 495 LChA.yN)) (wk W LChA.tab) (W := 0) (Nat.le_of_ble_eq_true rfl) (Nat.le_of_ble_eq_true rfl) (Nat.le_refl _) (Nat.le_refl _) (g := (mkF m 12 #[.val (.ref x), .val (.int (Int32.ofNat i))] [.int (Int32.ofNat i), .ref t])) rfl (by rw [hml]; rfl) c5 (argsL := [.ref t, .int (Int32.ofNat i)]) (rest := []) rfl rfl (by show 2 * 0 + 0 ≤ _; decide) (hb hbytes d12) (⟨rfl, hx.2.2.2.1.mv X4.warmed.alike hh4, (k2 i hi).1, s3.there X4.warmed.alike hh4, rf⟩)
    obtain ⟨rfl, q6⟩ := E6
    rw [chr8_lo8 hr.1 (k2 i hi).2] at g6
    exact ⟨T6, some (.int (f i)), _, _, _, X6, rfl, rfl, rfl, (fun h => by cases h), ⟨rfl, q6.trans hh4⟩, fun fs hl => Steps.trans g6 (X6.ireturnOut hexec hret (narrow_ch hr.1 hr.2) (Or.inr (Or.inr (Or.inr (Or.inl rfl)))) (hb hbytes d15) hl)⟩
  · exact absurd k0 (by decide)
theorem pays {l : Launch} {R : Room} {p : Program} {e : Env} {below : List Frame} {s : State} {sargs : Array Value} {len W : Nat} (x t : Addr) (V : Cell) (n : Nat) (f : Nat → Int32) (z : Int32) (fm : Value) (i : Nat) (htab : tab.before sargs s = true) (hfr : 4 ≤ R.frames) (hlo : W + 53 ≤ R.locals) :
    Back l R p e below s sargs yN len W (fun A₁ a₁ => A₁.cells + 0 ≤ R.cells ∧ A₁.slots + 0 ≤ R.slots ∧ P x t V n f z fm i a₁ A₁.U) (fun A₁ _ v₁ B₁ => E f i v₁ A₁.U B₁.U ∧ B₁.locs = A₁.locs ++ [] ∧ B₁.cells = A₁.cells + 0 ∧ B₁.slots = A₁.slots + 0) :=
  (law l x t V n f z fm i).pays htab hfr (by omega)
end ChN
end StrChars
namespace StrChars.Road
open Jvm Sem ClassFile Op Lib Jvm.Stand Jvm.Free Jvm.Free.XT
open Jvm.Lib.Cold (StaticIs)
/-- the words of String.charAt(int), the Latin-1 road alone -/
abbrev wordsChN : List Jvm.Cond := [.code ChN.yN ChN.yB 2 (some .char), .initialized ST, .fieldLink ST 9 ST "value" "[B", .fieldLink ST 38 ST "COMPACT_STRINGS" "Z", .fieldLink ST 15 ST "coder" "B", .code IsL.yN IsL.yB 1 (some .boolean), .methodLink ST 492 IsL.yN, .declares IsL.yN, .selects ST IsL.yN IsL.yN, .instanceMethod IsL.yN,
  .methodLink ST 495 LChA.yN, .static LChA.yN, .code LChA.yN LChA.yB 2 (some .char), .initialized "java/lang/StringLatin1", .methodLink "java/lang/StringLatin1" 9 JO.Str_checkIndex.yN, .static JO.Str_checkIndex.yN, .code JO.Str_checkIndex.yN JO.Str_checkIndex.yB 2 none,
  .fieldLink ST 1053 "jdk/internal/util/Preconditions" "SIOOBE_FORMATTER" "Ljava/util/function/BiFunction;", .methodLink ST 1059 JC.PreCheck.yN, .static JC.PreCheck.yN, .code JC.PreCheck.yN JC.PreCheck.yB 3 (some .int), .initialized "jdk/internal/util/Preconditions"]
theorem tabChN_of {a : Array Value} {s : State} (h : ∀ w ∈ wordsChN, w.before a s = true) : ChN.tab.before a s = true := by
  have hp : JC.PreCheck.tab.before a s = true := unparts (wk h (.code JC.PreCheck.yN JC.PreCheck.yB 3 (some .int))) (wks h (.initialized JC.PreCheck.yN.cls :: JC.PreCheck.site))
  have qk := consq hp h
  have hk : JO.Str_checkIndex.tab.before a s = true := unparts (wk qk (.code JO.Str_checkIndex.yN JO.Str_checkIndex.yB 2 none)) (wks qk (.initialized JO.Str_checkIndex.yN.cls :: JO.Str_checkIndex.site))
  have ql := consq hk h
  have hl : LChA.tab.before a s = true := unparts (wk ql (.code LChA.yN LChA.yB 2 (some .char))) (wks ql (.initialized LChA.yN.cls :: LChA.site))
  have hi : IsL.tab.before a s = true := unparts (wk h (.code IsL.yN IsL.yB 1 (some .boolean))) (wks h (.initialized IsL.yN.cls :: IsL.site))
  have q := consq hi (consq hl h)
  exact unparts (wk q (.code ChN.yN ChN.yB 2 (some .char))) (wks q (.initialized ChN.yN.cls :: ChN.site))
theorem movedChN {Z s : State} {a0 args : Array Value} (hZ : Z.Warmed39 s.vm) (hw : ∀ d ∈ wordsChN, d.before a0 Z = true) : ∀ d ∈ wordsChN, d.before args s = true := fun d hd => by
  have t : ∀ d ∈ wordsChN, (d.onTables && d.keepsFace) = true := by decide +kernel
  exact RoadKit.mv hZ (hw d hd) (t d hd)
/-- **charAt(i) OF A LATIN-1 STRING**, i < n: the char -/
theorem chN {p : Program} {l : Launch} {e : Env} {R : Room} {s : State} {args : Array Value} {below : List Frame} {len W : Nat} {Z : State} {a0 : Array Value} {h : Heap} (hZ : Z.Warmed39 s.vm) (hw : ∀ d ∈ wordsChN, d.before a0 Z = true) {kI : Nat} (wi : (Jvm.Cond.instantiable ST kI).before a0 Z = true)
    {x t : Addr} {kb : ClassId} {cs : List Int32} {N2 z : Int32} {vs : List Value} {fm : Value} {i : Nat} {j : Int32} (E : RoadKit.Exa Z h x ST) (V : RoadKit.Fld Z h x ST "value" "[B" (.ref t)) (C : RoadKit.Fld Z h x ST "coder" "B" (.int 0)) (K : RoadKit.Arv Z h t kb .byte N2 vs (.int 0)) (hc : CodA cs 0 N2 vs) (hb : ∀ c ∈ cs, ¬ c < 0 ∧ ¬ (65535 : Int32) < c)
    (S : RoadKit.Sta Z h ST "COMPACT_STRINGS" "Z" (.int z)) (hz : ¬ z = 0) (F : RoadKit.Sta Z h "jdk/internal/util/Preconditions" "SIOOBE_FORMATTER" "Ljava/util/function/BiFunction;" fm) (rf : fm.isRef = true) (l2 : cs.length ≤ 4000) (hi : i < cs.length) (hj : j = Int32.ofNat i) (hfr : 4 ≤ R.frames) (hlo : W + 53 ≤ R.locals) :
    Back l R p e below s args (⟨"java/lang/String", "charAt", "(I)C"⟩ : MethodName) len W (fun P a => a = #[.ref x, .int j] ∧ P.U.heap = h ∧ P.cells + 0 ≤ R.cells ∧ P.slots + 0 ≤ R.slots)
      (fun P _ v B => ∃ L, (v = some (.int (cs.getD i 0)) ∧ L = [] ∧ B.U.heap = h) ∧ B.locs = P.locs ++ L ∧ B.cells = P.cells + 0 ∧ B.slots = P.slots + 0) := by
  subst hj
  intro m meth c P g ig mk a X hg hsize hdg hW hn hp'
  obtain ⟨rfl, rfl, r1, r2⟩ := hp'
  have al : Z.vm.Alike P.U.vm := hZ.alike.trans X.warmed.alike
  obtain ⟨A, hx⟩ := txt_of wi al E V C K hc hb l2
  obtain ⟨v, B, X', ⟨⟨hv, hh⟩, hl, hk, hs⟩, st⟩ := ChN.pays x t A cs.length (fun j => cs.getD j 0) z fm i (tabChN_of (movedChN hZ hw)) hfr hlo m meth c P g ig mk _ X hg hsize hdg hW hn ⟨r1, r2, rfl, hx, hi, sta_is al S, hz, sta_is al F, rf⟩
  exact ⟨v, B, X', ⟨[], ⟨hv, rfl, hh⟩, hl, hk, hs⟩, st⟩
/-- what backV says of its String, as the contracts of this text ask it: cs's low bytes, coder 0 -/
theorem codOf {cs : List Int32} {n : Nat} (hn : cs.length = n) (hb : ∀ c ∈ cs, ¬ 255 < c) : CodA cs 0 (Int32.ofNat n) ((cs.map lo8).map Value.int) := Or.inl ⟨rfl, by rw [hn], by simp [List.map_map, Function.comp_def], hb⟩
end StrChars.Road
end Jvm.Pilot.@@N@@
namespace Jvm.Pilot.@@N@@
open Jvm Jvm.ClassFile Sem Op Lib Jvm.Free Jvm.Stand Jvm.LawKit Jvm.RoadKit Bundle Jvm.Own Jvm.Pilot.@@N@@.Jvm.D
/-- a is a String of the chars cs (each 0 to 255), its bytes at t -/
def Str (Z : State) (h : Heap) (a t : Addr) (kb : ClassId) (cs : List Int32) : Prop := Exa Z h a "java/lang/String" ∧ Fld Z h a "java/lang/String" "coder" "B" (.int 0) ∧ Fld Z h a "java/lang/String" "value" "[B" (.ref t) ∧ Arv Z h t kb .byte (Int32.ofNat cs.length) ((cs.map fun c => c.toInt8.toInt32).map Value.int) (.int 0) ∧ (∀ c ∈ cs, ¬ c < 0 ∧ ¬ (255 : Int32) < c) ∧ cs.length ≤ 4000
theorem Str.ext {Z : State} {h h' : Heap} {a t : Addr} {kb : ClassId} {cs : List Int32} (S : Str Z h a t kb cs) (E : Ext h h') : Str Z h' a t kb cs := ⟨S.1.ext E, S.2.1.ext E, S.2.2.1.ext E, S.2.2.2.1.ext E, S.2.2.2.2⟩
theorem Str.keep {Z : State} {h h' : Heap} {a t : Addr} {kb : ClassId} {cs : List Int32} {ws : List Addr} (S : Str Z h a t kb cs) (K : Keep h h' ws) (q1 : a ∉ ws) (q2 : t ∉ ws) : Str Z h' a t kb cs := ⟨S.1.keep K, S.2.1.keep K q1, S.2.2.1.keep K q1, S.2.2.2.1.keep K q2, S.2.2.2.2⟩
theorem Str.cod {Z : State} {h : Heap} {a t : Addr} {kb : ClassId} {cs : List Int32} (S : Str Z h a t kb cs) : StrChars.Road.CodA cs 0 (Int32.ofNat cs.length) ((cs.map fun c => c.toInt8.toInt32).map Value.int) := StrChars.Road.codOf rfl (fun c hc => (S.2.2.2.2.1 c hc).2)
theorem own_up (cs : List Int32) (h : ∀ c ∈ cs, ¬ c < 0 ∧ ¬ (255 : Int32) < c) : ∀ c ∈ cs, ¬ c < 0 ∧ ¬ (65535 : Int32) < c := fun c hc => ⟨(h c hc).1, fun q => (h c hc).2 (by rw [Int32.lt_iff_toInt_lt] at q ⊢; have e1 : (65535 : Int32).toInt = 65535 := rfl; have e2 : (255 : Int32).toInt = 255 := rfl; omega)⟩
section
variable {p : Program} {l : Launch} {e : Env} {R : Room} {s : State} {args : Array Value} {below : List Frame} {W n0 : Nat} {Z : State} {a0 : Array Value} {h : Heap} {a t : Addr} {kb : ClassId} {cs : List Int32} {z : Int32}
theorem own_lenP (hw : ∀ d ∈ tables_1, d.before a0 Z = true) (S : Str Z h a t kb cs) (St : Sta Z h "java/lang/String" "COMPACT_STRINGS" "Z" (.int z)) (hz : ¬ z = 0) (hfr : 2 ≤ R.frames) (hlo : W + 25 ≤ R.locals) :
    Pay l R p e below s args Z (⟨"java/lang/String", "length", "()I"⟩ : MethodName) 3 W #[.ref a] h 0 0 (fun v h' L => (v = some (.int (Int32.ofNat cs.length)) ∧ h = h') ∧ Fr n0 L) :=
  Pay.mono (Q := fun v h' L => v = some (.int (Int32.ofNat cs.length)) ∧ L = [] ∧ h' = h) (fun vm0 hZ => StrChars.Road.lenW (s := s.setVm vm0) (W := W) hZ (fun d hd => hw d ((by decide +kernel : ∀ d ∈ StrChars.Road.wordsLen, d ∈ tables_1) d hd)) (kI := 4) (hw _ (List.mem_of_getElem? (i := 2) rfl)) S.1 S.2.2.1 S.2.1 S.2.2.2.1 S.cod (own_up cs S.2.2.2.2.1) St hz S.2.2.2.2.2 hfr hlo) (fun v h' L q => ⟨⟨q.1, q.2.2.symm⟩, by rw [q.2.1]; exact Fr.nil _⟩)
theorem own_chP (hw : ∀ d ∈ tables_1, d.before a0 Z = true) (S : Str Z h a t kb cs) (St : Sta Z h "java/lang/String" "COMPACT_STRINGS" "Z" (.int z)) (hz : ¬ z = 0) {fm : Value} (F : Sta Z h "jdk/internal/util/Preconditions" "SIOOBE_FORMATTER" "Ljava/util/function/BiFunction;" fm) (rf : fm.isRef = true) {i : Nat} {j : Int32} (hi : i < cs.length) (hj : j = Int32.ofNat i) (hfr : 4 ≤ R.frames) (hlo : W + 53 ≤ R.locals) :
    Pay l R p e below s args Z (⟨"java/lang/String", "charAt", "(I)C"⟩ : MethodName) 3 W #[.ref a, .int j] h 0 0 (fun v h' L => (v = some (.int (cs.getD i 0)) ∧ h = h') ∧ Fr n0 L) :=
  Pay.mono (Q := fun v h' L => v = some (.int (cs.getD i 0)) ∧ L = [] ∧ h' = h) (fun vm0 hZ => StrChars.Road.chN (s := s.setVm vm0) (W := W) hZ (fun d hd => hw d ((by decide +kernel : ∀ d ∈ StrChars.Road.wordsChN, d ∈ tables_1) d hd)) (kI := 4) (hw _ (List.mem_of_getElem? (i := 2) rfl)) S.1 S.2.2.1 S.2.1 S.2.2.2.1 S.cod (own_up cs S.2.2.2.2.1) St hz F rf S.2.2.2.2.2 hi hj hfr hlo) (fun v h' L q => ⟨⟨q.1, q.2.2.symm⟩, by rw [q.2.1]; exact Fr.nil _⟩)
theorem own_newP (hw : ∀ d ∈ tables_1, d.before a0 Z = true) {x b : Addr} {kC : ClassId} {d v0 c0 : Value} (hx0 : n0 ≤ x) (hh0 : n0 ≤ h.size) (E : Exa Z h x "java/lang/String") (V : Fld Z h x "java/lang/String" "value" "[B" v0) (C : Fld Z h x "java/lang/String" "coder" "B" c0) (K : Arv Z h b kC .char (Int32.ofNat cs.length) (cs.map Value.int) d)
    (St : Sta Z h "java/lang/String" "COMPACT_STRINGS" "Z" (.int z)) (hz : ¬ z = 0) (l0 : 0 < cs.length) (l2 : cs.length ≤ 4000) (hp : ∀ c ∈ cs, ¬ c < 0 ∧ ¬ (255 : Int32) < c) (hfr : 4 ≤ R.frames) (hlo : W + 65 ≤ R.locals) :
    Pay l R p e below s args Z (⟨"java/lang/String", "<init>", "([C)V"⟩ : MethodName) 3 W #[.ref x, .ref b] h 1 cs.length (fun v h' L => (v = none ∧ Keep h h' [x] ∧ ∃ t kb, h.size ≤ t ∧ Str Z h' x t kb cs) ∧ Fr n0 L) :=
  Pay.mono (Q := StrChars.Road.QV Z x (Int32.ofNat cs.length) (cs.map (fun c => c.toInt8.toInt32)) h n0) (fun vm0 hZ => StrChars.Road.backV (s := s.setVm vm0) (W := W) hZ (fun d hd => hw d ((by decide +kernel : ∀ d ∈ StrChars.Road.words, d ∈ tables_1) d hd)) (kI := 4) (hw _ (List.mem_of_getElem? (i := 2) rfl)) (cs := cs) (bs := cs.map (fun c => c.toInt8.toInt32)) (n := cs.length) hx0 hh0 E V C K St hz rfl rfl l0 l2 hp rfl hfr hlo) (fun v h' L q => by
    obtain ⟨q1, q2, q3, q4, q5, t, kb, -, q6, -, q7, q8⟩ := q
    exact ⟨⟨q1, q3, t, kb, q6, q4, q5, q7, q8, hp, l2⟩, q2⟩)
end
end Jvm.Pilot.@@N@@
namespace Jvm.Pilot.@@N@@
open Jvm Jvm.ClassFile Sem Op Lib Jvm.Free Jvm.Stand Jvm.LawKit Jvm.RoadKit Bundle Jvm.Own Jvm.Pilot.@@N@@.Jvm.D
theorem pn_java_lang_AbstractStringBuilder : plainName "java/lang/AbstractStringBuilder" = true := by first | (simp [plainName, overriddenIn]; done) | decide +kernel
theorem d19_0 : decode jdk_68_method_68_code 0 = .ok (.getstatic 18, 3) := by decide +kernel
theorem d19_3 : decode jdk_68_method_68_code 3 = .ok (.ifCond .eq 14, 3) := by decide +kernel
theorem d19_6 : decode jdk_68_method_68_code 6 = .ok (.aload_n 0, 1) := by decide +kernel
theorem d19_7 : decode jdk_68_method_68_code 7 = .ok (.getfield 22, 3) := by decide +kernel
theorem d19_10 : decode jdk_68_method_68_code 10 = .ok (.ifCond .ne 7, 3) := by decide +kernel
theorem d19_13 : decode jdk_68_method_68_code 13 = .ok (.iconst 1, 1) := by decide +kernel
theorem d19_14 : decode jdk_68_method_68_code 14 = .ok (.goto 4, 3) := by decide +kernel
theorem d19_18 : decode jdk_68_method_68_code 18 = .ok (.ireturn, 1) := by decide +kernel
theorem pn_java_lang_StringLatin1 : plainName "java/lang/StringLatin1" = true := by first | (simp [plainName, overriddenIn]; done) | decide +kernel
theorem d20_0 : decode jdk_43_method_3_code 0 = .ok (.iload_n 0, 1) := by decide +kernel
theorem d20_1 : decode jdk_43_method_3_code 1 = .ok (.sipush 255, 3) := by decide +kernel
theorem d20_4 : decode jdk_43_method_3_code 4 = .ok (.if_icmp .gt 7, 3) := by decide +kernel
theorem d20_7 : decode jdk_43_method_3_code 7 = .ok (.iconst 1, 1) := by decide +kernel
theorem d20_8 : decode jdk_43_method_3_code 8 = .ok (.goto 4, 3) := by decide +kernel
theorem d20_12 : decode jdk_43_method_3_code 12 = .ok (.ireturn, 1) := by decide +kernel
theorem d18_0 : decode jdk_68_method_9_code 0 = .ok (.aload_n 0, 1) := by decide +kernel
theorem d18_1 : decode jdk_68_method_9_code 1 = .ok (.getfield 15, 3) := by decide +kernel
theorem d18_4 : decode jdk_68_method_9_code 4 = .ok (.arraylength, 1) := by decide +kernel
theorem d18_5 : decode jdk_68_method_9_code 5 = .ok (.aload_n 0, 1) := by decide +kernel
theorem d18_6 : decode jdk_68_method_9_code 6 = .ok (.getfield 22, 3) := by decide +kernel
theorem d18_9 : decode jdk_68_method_9_code 9 = .ok (.ishr, 1) := by decide +kernel
theorem d18_10 : decode jdk_68_method_9_code 10 = .ok (.istore_n 2, 1) := by decide +kernel
theorem d18_11 : decode jdk_68_method_9_code 11 = .ok (.iload_n 1, 1) := by decide +kernel
theorem d18_12 : decode jdk_68_method_9_code 12 = .ok (.iload_n 2, 1) := by decide +kernel
theorem d18_13 : decode jdk_68_method_9_code 13 = .ok (.isub, 1) := by decide +kernel
theorem d18_14 : decode jdk_68_method_9_code 14 = .ok (.ifCond .le 24, 3) := by decide +kernel
theorem d18_38 : decode jdk_68_method_9_code 38 = .ok (.return_, 1) := by decide +kernel
theorem d17_0 : decode jdk_68_method_31_code 0 = .ok (.aload_n 0, 1) := by decide +kernel
theorem d17_1 : decode jdk_68_method_31_code 1 = .ok (.aload_n 0, 1) := by decide +kernel
theorem d17_2 : decode jdk_68_method_31_code 2 = .ok (.getfield 79, 3) := by decide +kernel
theorem d17_5 : decode jdk_68_method_31_code 5 = .ok (.iconst 1, 1) := by decide +kernel
theorem d17_6 : decode jdk_68_method_31_code 6 = .ok (.iadd, 1) := by decide +kernel
theorem d17_7 : decode jdk_68_method_31_code 7 = .ok (.invokevirtual 100, 3) := by decide +kernel
theorem pd__I_V : parseMethodDescriptor "(I)V" = some ⟨[.int], none⟩ := by decide +kernel
theorem d17_10 : decode jdk_68_method_31_code 10 = .ok (.aload_n 0, 1) := by decide +kernel
theorem d17_11 : decode jdk_68_method_31_code 11 = .ok (.invokevirtual 83, 3) := by decide +kernel
theorem pd___Z : parseMethodDescriptor "()Z" = some ⟨[], some .boolean⟩ := by decide +kernel
theorem d17_14 : decode jdk_68_method_31_code 14 = .ok (.ifCond .eq 31, 3) := by decide +kernel
theorem d17_17 : decode jdk_68_method_31_code 17 = .ok (.iload_n 1, 1) := by decide +kernel
theorem d17_18 : decode jdk_68_method_31_code 18 = .ok (.invokestatic 191, 3) := by decide +kernel
theorem pd__C_Z : parseMethodDescriptor "(C)Z" = some ⟨[.char], some .boolean⟩ := by decide +kernel
theorem d17_21 : decode jdk_68_method_31_code 21 = .ok (.ifCond .eq 24, 3) := by decide +kernel
theorem d17_24 : decode jdk_68_method_31_code 24 = .ok (.aload_n 0, 1) := by decide +kernel
theorem d17_25 : decode jdk_68_method_31_code 25 = .ok (.getfield 15, 3) := by decide +kernel
theorem d17_28 : decode jdk_68_method_31_code 28 = .ok (.aload_n 0, 1) := by decide +kernel
theorem d17_29 : decode jdk_68_method_31_code 29 = .ok (.dup, 1) := by decide +kernel
theorem d17_30 : decode jdk_68_method_31_code 30 = .ok (.getfield 79, 3) := by decide +kernel
theorem d17_33 : decode jdk_68_method_31_code 33 = .ok (.dup_x1, 1) := by decide +kernel
theorem d17_34 : decode jdk_68_method_31_code 34 = .ok (.iconst 1, 1) := by decide +kernel
theorem d17_35 : decode jdk_68_method_31_code 35 = .ok (.iadd, 1) := by decide +kernel
theorem d17_36 : decode jdk_68_method_31_code 36 = .ok (.putfield 79, 3) := by decide +kernel
theorem d17_39 : decode jdk_68_method_31_code 39 = .ok (.iload_n 1, 1) := by decide +kernel
theorem d17_40 : decode jdk_68_method_31_code 40 = .ok (.i2b, 1) := by decide +kernel
theorem d17_41 : decode jdk_68_method_31_code 41 = .ok (.bastore, 1) := by decide +kernel
theorem d17_42 : decode jdk_68_method_31_code 42 = .ok (.goto 33, 3) := by decide +kernel
theorem d17_75 : decode jdk_68_method_31_code 75 = .ok (.aload_n 0, 1) := by decide +kernel
theorem d17_76 : decode jdk_68_method_31_code 76 = .ok (.areturn, 1) := by decide +kernel
theorem pn_java_lang_StringBuilder : plainName "java/lang/StringBuilder" = true := by first | (simp [plainName, overriddenIn]; done) | decide +kernel
theorem d16_0 : decode jdk_67_method_14_code 0 = .ok (.aload_n 0, 1) := by decide +kernel
theorem d16_1 : decode jdk_67_method_14_code 1 = .ok (.iload_n 1, 1) := by decide +kernel
theorem d16_2 : decode jdk_67_method_14_code 2 = .ok (.invokespecial 50, 3) := by decide +kernel
theorem pd__C_Ljava_lang_AbstractStringBuilder_ : parseMethodDescriptor "(C)Ljava/lang/AbstractStringBuilder;" = some ⟨[.char], some (.object "java/lang/AbstractStringBuilder")⟩ := by decide +kernel
theorem d16_5 : decode jdk_67_method_14_code 5 = .ok (.pop, 1) := by decide +kernel
theorem d16_6 : decode jdk_67_method_14_code 6 = .ok (.aload_n 0, 1) := by decide +kernel
theorem d16_7 : decode jdk_67_method_14_code 7 = .ok (.areturn, 1) := by decide +kernel
theorem d15_0 : decode jdk_67_method_94_code 0 = .ok (.aload_n 0, 1) := by decide +kernel
theorem d15_1 : decode jdk_67_method_94_code 1 = .ok (.iload_n 1, 1) := by decide +kernel
theorem d15_2 : decode jdk_67_method_94_code 2 = .ok (.invokevirtual 284, 3) := by decide +kernel
theorem pd__C_Ljava_lang_StringBuilder_ : parseMethodDescriptor "(C)Ljava/lang/StringBuilder;" = some ⟨[.char], some (.object "java/lang/StringBuilder")⟩ := by decide +kernel
theorem d15_5 : decode jdk_67_method_94_code 5 = .ok (.areturn, 1) := by decide +kernel
theorem pn_java_util_HexFormat : plainName "java/util/HexFormat" = true := by first | (simp [plainName, overriddenIn]; done) | decide +kernel
theorem d14_0 : decode jdk_2580_method_25_code 0 = .ok (.aload_n 0, 1) := by decide +kernel
theorem d14_1 : decode jdk_2580_method_25_code 1 = .ok (.getfield 30, 3) := by decide +kernel
theorem d14_4 : decode jdk_2580_method_25_code 4 = .ok (.iload_n 1, 1) := by decide +kernel
theorem d14_5 : decode jdk_2580_method_25_code 5 = .ok (.iconst 4, 1) := by decide +kernel
theorem d14_6 : decode jdk_2580_method_25_code 6 = .ok (.ishr, 1) := by decide +kernel
theorem d14_7 : decode jdk_2580_method_25_code 7 = .ok (.bipush 15, 2) := by decide +kernel
theorem d14_9 : decode jdk_2580_method_25_code 9 = .ok (.iand, 1) := by decide +kernel
theorem d14_10 : decode jdk_2580_method_25_code 10 = .ok (.baload, 1) := by decide +kernel
theorem d14_11 : decode jdk_2580_method_25_code 11 = .ok (.i2c, 1) := by decide +kernel
theorem d14_12 : decode jdk_2580_method_25_code 12 = .ok (.ireturn, 1) := by decide +kernel
theorem d21_0 : decode jdk_2580_method_24_code 0 = .ok (.aload_n 0, 1) := by decide +kernel
theorem d21_1 : decode jdk_2580_method_24_code 1 = .ok (.getfield 30, 3) := by decide +kernel
theorem d21_4 : decode jdk_2580_method_24_code 4 = .ok (.iload_n 1, 1) := by decide +kernel
theorem d21_5 : decode jdk_2580_method_24_code 5 = .ok (.bipush 15, 2) := by decide +kernel
theorem d21_7 : decode jdk_2580_method_24_code 7 = .ok (.iand, 1) := by decide +kernel
theorem d21_8 : decode jdk_2580_method_24_code 8 = .ok (.baload, 1) := by decide +kernel
theorem d21_9 : decode jdk_2580_method_24_code 9 = .ok (.i2c, 1) := by decide +kernel
theorem d21_10 : decode jdk_2580_method_24_code 10 = .ok (.ireturn, 1) := by decide +kernel
theorem pn_java_util_Objects : plainName "java/util/Objects" = true := by first | (simp [plainName, overriddenIn]; done) | decide +kernel
theorem d13_0 : decode jdk_31_method_11_code 0 = .ok (.aload_n 0, 1) := by decide +kernel
theorem d13_1 : decode jdk_31_method_11_code 1 = .ok (.ifnonnull 12, 3) := by decide +kernel
theorem d13_13 : decode jdk_31_method_11_code 13 = .ok (.aload_n 0, 1) := by decide +kernel
theorem d13_14 : decode jdk_31_method_11_code 14 = .ok (.areturn, 1) := by decide +kernel
theorem d12_0 : decode jdk_2580_method_26_code 0 = .ok (.aload_n 1, 1) := by decide +kernel
theorem d12_1 : decode jdk_2580_method_26_code 1 = .ok (.ldc 90, 2) := by decide +kernel
theorem d12_3 : decode jdk_2580_method_26_code 3 = .ok (.invokestatic 9, 3) := by decide +kernel
theorem pd__Ljava_lang_Object_Ljava_lang_String__Ljava_lang_Object_ : parseMethodDescriptor "(Ljava/lang/Object;Ljava/lang/String;)Ljava/lang/Object;" = some ⟨[(.object "java/lang/Object"), (.object "java/lang/String")], some (.object "java/lang/Object")⟩ := by decide +kernel
theorem d12_6 : decode jdk_2580_method_26_code 6 = .ok (.pop, 1) := by decide +kernel
theorem d12_7 : decode jdk_2580_method_26_code 7 = .ok (.aload_n 1, 1) := by decide +kernel
theorem d12_8 : decode jdk_2580_method_26_code 8 = .ok (.aload_n 0, 1) := by decide +kernel
theorem d12_9 : decode jdk_2580_method_26_code 9 = .ok (.iload_n 2, 1) := by decide +kernel
theorem d12_10 : decode jdk_2580_method_26_code 10 = .ok (.invokevirtual 120, 3) := by decide +kernel
theorem pd__I_C : parseMethodDescriptor "(I)C" = some ⟨[.int], some .char⟩ := by decide +kernel
theorem d12_13 : decode jdk_2580_method_26_code 13 = .ok (.invokeinterface 253 2, 5) := by decide +kernel
theorem pd__C_Ljava_lang_Appendable_ : parseMethodDescriptor "(C)Ljava/lang/Appendable;" = some ⟨[.char], some (.object "java/lang/Appendable")⟩ := by decide +kernel
theorem d12_18 : decode jdk_2580_method_26_code 18 = .ok (.pop, 1) := by decide +kernel
theorem d12_19 : decode jdk_2580_method_26_code 19 = .ok (.aload_n 1, 1) := by decide +kernel
theorem d12_20 : decode jdk_2580_method_26_code 20 = .ok (.aload_n 0, 1) := by decide +kernel
theorem d12_21 : decode jdk_2580_method_26_code 21 = .ok (.iload_n 2, 1) := by decide +kernel
theorem d12_22 : decode jdk_2580_method_26_code 22 = .ok (.invokevirtual 124, 3) := by decide +kernel
theorem d12_25 : decode jdk_2580_method_26_code 25 = .ok (.invokeinterface 253 2, 5) := by decide +kernel
theorem d12_30 : decode jdk_2580_method_26_code 30 = .ok (.pop, 1) := by decide +kernel
theorem d12_31 : decode jdk_2580_method_26_code 31 = .ok (.aload_n 1, 1) := by decide +kernel
theorem d12_32 : decode jdk_2580_method_26_code 32 = .ok (.areturn, 1) := by decide +kernel
theorem d9_0 : decode jdk_68_method_2_code 0 = .ok (.aload_n 0, 1) := by decide +kernel
theorem d9_1 : decode jdk_68_method_2_code 1 = .ok (.invokespecial 3, 3) := by decide +kernel
theorem d9_4 : decode jdk_68_method_2_code 4 = .ok (.getstatic 18, 3) := by decide +kernel
theorem d9_7 : decode jdk_68_method_2_code 7 = .ok (.ifCond .eq 18, 3) := by decide +kernel
theorem d9_10 : decode jdk_68_method_2_code 10 = .ok (.aload_n 0, 1) := by decide +kernel
theorem d9_11 : decode jdk_68_method_2_code 11 = .ok (.iload_n 1, 1) := by decide +kernel
theorem d9_12 : decode jdk_68_method_2_code 12 = .ok (.newarray .byte, 2) := by decide +kernel
theorem d9_14 : decode jdk_68_method_2_code 14 = .ok (.putfield 15, 3) := by decide +kernel
theorem d9_17 : decode jdk_68_method_2_code 17 = .ok (.aload_n 0, 1) := by decide +kernel
theorem d9_18 : decode jdk_68_method_2_code 18 = .ok (.iconst 0, 1) := by decide +kernel
theorem d9_19 : decode jdk_68_method_2_code 19 = .ok (.putfield 22, 3) := by decide +kernel
theorem d9_22 : decode jdk_68_method_2_code 22 = .ok (.goto 16, 3) := by decide +kernel
theorem d9_38 : decode jdk_68_method_2_code 38 = .ok (.return_, 1) := by decide +kernel
theorem d8_0 : decode jdk_67_method_2_code 0 = .ok (.aload_n 0, 1) := by decide +kernel
theorem d8_1 : decode jdk_67_method_2_code 1 = .ok (.iload_n 1, 1) := by decide +kernel
theorem d8_2 : decode jdk_67_method_2_code 2 = .ok (.invokespecial 1, 3) := by decide +kernel
theorem d8_5 : decode jdk_67_method_2_code 5 = .ok (.return_, 1) := by decide +kernel
theorem pn_java_util_Arrays : plainName "java/util/Arrays" = true := by first | (simp [plainName, overriddenIn]; done) | decide +kernel
theorem d30_0 : decode jdk_65_method_131_code 0 = .ok (.iload_n 1, 1) := by decide +kernel
theorem d30_1 : decode jdk_65_method_131_code 1 = .ok (.iload_n 0, 1) := by decide +kernel
theorem d30_2 : decode jdk_65_method_131_code 2 = .ok (.if_icmp .ge 35, 3) := by decide +kernel
theorem d30_37 : decode jdk_65_method_131_code 37 = .ok (.return_, 1) := by decide +kernel
theorem d31_0 : decode jdk_29_method_69_code 0 = .ok (.iload_n 0, 1) := by decide +kernel
theorem d31_1 : decode jdk_29_method_69_code 1 = .ok (.iload_n 1, 1) := by decide +kernel
theorem d31_2 : decode jdk_29_method_69_code 2 = .ok (.if_icmp .gt 7, 3) := by decide +kernel
theorem d31_9 : decode jdk_29_method_69_code 9 = .ok (.iload_n 1, 1) := by decide +kernel
theorem d31_10 : decode jdk_29_method_69_code 10 = .ok (.ireturn, 1) := by decide +kernel
theorem d31_5 : decode jdk_29_method_69_code 5 = .ok (.iload_n 0, 1) := by decide +kernel
theorem d31_6 : decode jdk_29_method_69_code 6 = .ok (.goto 4, 3) := by decide +kernel
theorem d29_0 : decode jdk_65_method_133_code 0 = .ok (.iload_n 1, 1) := by decide +kernel
theorem d29_1 : decode jdk_65_method_133_code 1 = .ok (.iload_n 2, 1) := by decide +kernel
theorem d29_2 : decode jdk_65_method_133_code 2 = .ok (.invokestatic 343, 3) := by decide +kernel
theorem pd__II_V : parseMethodDescriptor "(II)V" = some ⟨[.int, .int], none⟩ := by decide +kernel
theorem d29_5 : decode jdk_65_method_133_code 5 = .ok (.iload_n 2, 1) := by decide +kernel
theorem d29_6 : decode jdk_65_method_133_code 6 = .ok (.iload_n 1, 1) := by decide +kernel
theorem d29_7 : decode jdk_65_method_133_code 7 = .ok (.isub, 1) := by decide +kernel
theorem d29_8 : decode jdk_65_method_133_code 8 = .ok (.istore_n 3, 1) := by decide +kernel
theorem d29_9 : decode jdk_65_method_133_code 9 = .ok (.iload_n 3, 1) := by decide +kernel
theorem d29_10 : decode jdk_65_method_133_code 10 = .ok (.newarray .byte, 2) := by decide +kernel
theorem d29_12 : decode jdk_65_method_133_code 12 = .ok (.astore 4, 2) := by decide +kernel
theorem d29_14 : decode jdk_65_method_133_code 14 = .ok (.aload_n 0, 1) := by decide +kernel
theorem d29_15 : decode jdk_65_method_133_code 15 = .ok (.iload_n 1, 1) := by decide +kernel
theorem d29_16 : decode jdk_65_method_133_code 16 = .ok (.aload 4, 2) := by decide +kernel
theorem d29_18 : decode jdk_65_method_133_code 18 = .ok (.iconst 0, 1) := by decide +kernel
theorem d29_19 : decode jdk_65_method_133_code 19 = .ok (.aload_n 0, 1) := by decide +kernel
theorem d29_20 : decode jdk_65_method_133_code 20 = .ok (.arraylength, 1) := by decide +kernel
theorem d29_21 : decode jdk_65_method_133_code 21 = .ok (.iload_n 1, 1) := by decide +kernel
theorem d29_22 : decode jdk_65_method_133_code 22 = .ok (.isub, 1) := by decide +kernel
theorem d29_23 : decode jdk_65_method_133_code 23 = .ok (.iload_n 3, 1) := by decide +kernel
theorem d29_24 : decode jdk_65_method_133_code 24 = .ok (.invokestatic 304, 3) := by decide +kernel
theorem pd__II_I : parseMethodDescriptor "(II)I" = some ⟨[.int, .int], some .int⟩ := by decide +kernel
theorem d29_27 : decode jdk_65_method_133_code 27 = .ok (.invokestatic 150, 3) := by decide +kernel
theorem d29_30 : decode jdk_65_method_133_code 30 = .ok (.aload 4, 2) := by decide +kernel
theorem d29_32 : decode jdk_65_method_133_code 32 = .ok (.areturn, 1) := by decide +kernel
theorem d28_0 : decode jdk_65_method_132_code 0 = .ok (.iload_n 1, 1) := by decide +kernel
theorem d28_1 : decode jdk_65_method_132_code 1 = .ok (.ifCond .ne 9, 3) := by decide +kernel
theorem d28_4 : decode jdk_65_method_132_code 4 = .ok (.iload_n 2, 1) := by decide +kernel
theorem d28_5 : decode jdk_65_method_132_code 5 = .ok (.aload_n 0, 1) := by decide +kernel
theorem d28_6 : decode jdk_65_method_132_code 6 = .ok (.arraylength, 1) := by decide +kernel
theorem d28_7 : decode jdk_65_method_132_code 7 = .ok (.if_icmp .eq 10, 3) := by decide +kernel
theorem d28_17 : decode jdk_65_method_132_code 17 = .ok (.aload_n 0, 1) := by decide +kernel
theorem d28_18 : decode jdk_65_method_132_code 18 = .ok (.invokevirtual 310, 3) := by decide +kernel
theorem d28_21 : decode jdk_65_method_132_code 21 = .ok (.checkcast 311, 3) := by decide +kernel
theorem d28_24 : decode jdk_65_method_132_code 24 = .ok (.areturn, 1) := by decide +kernel
theorem d28_10 : decode jdk_65_method_132_code 10 = .ok (.aload_n 0, 1) := by decide +kernel
theorem d28_11 : decode jdk_65_method_132_code 11 = .ok (.iload_n 1, 1) := by decide +kernel
theorem d28_12 : decode jdk_65_method_132_code 12 = .ok (.iload_n 2, 1) := by decide +kernel
theorem d28_13 : decode jdk_65_method_132_code 13 = .ok (.invokestatic 339, 3) := by decide +kernel
theorem pd___BII__B : parseMethodDescriptor "([BII)[B" = some ⟨[(.array .byte), .int, .int], some (.array .byte)⟩ := by decide +kernel
theorem d28_16 : decode jdk_65_method_132_code 16 = .ok (.areturn, 1) := by decide +kernel
theorem d25_0 : decode jdk_68_method_64_code 0 = .ok (.aload_n 0, 1) := by decide +kernel
theorem d25_1 : decode jdk_68_method_64_code 1 = .ok (.getfield 15, 3) := by decide +kernel
theorem d25_4 : decode jdk_68_method_64_code 4 = .ok (.areturn, 1) := by decide +kernel
theorem d27_0 : decode jdk_68_method_6_code 0 = .ok (.aload_n 0, 1) := by decide +kernel
theorem d27_1 : decode jdk_68_method_6_code 1 = .ok (.getfield 79, 3) := by decide +kernel
theorem d27_4 : decode jdk_68_method_6_code 4 = .ok (.ireturn, 1) := by decide +kernel
theorem d26_0 : decode jdk_67_method_93_code 0 = .ok (.aload_n 0, 1) := by decide +kernel
theorem d26_1 : decode jdk_67_method_93_code 1 = .ok (.invokespecial 343, 3) := by decide +kernel
theorem pd___I : parseMethodDescriptor "()I" = some ⟨[], some .int⟩ := by decide +kernel
theorem d26_4 : decode jdk_67_method_93_code 4 = .ok (.ireturn, 1) := by decide +kernel
theorem pn_java_lang_String : plainName "java/lang/String" = true := by first | (simp [plainName, overriddenIn]; done) | decide +kernel
theorem d24_0 : decode jdk_42_method_150_code 0 = .ok (.aload_n 0, 1) := by decide +kernel
theorem d24_1 : decode jdk_42_method_150_code 1 = .ok (.invokespecial 1, 3) := by decide +kernel
theorem d24_4 : decode jdk_42_method_150_code 4 = .ok (.aload_n 1, 1) := by decide +kernel
theorem d24_5 : decode jdk_42_method_150_code 5 = .ok (.invokevirtual 552, 3) := by decide +kernel
theorem pd____B : parseMethodDescriptor "()[B" = some ⟨[], some (.array .byte)⟩ := by decide +kernel
theorem d24_8 : decode jdk_42_method_150_code 8 = .ok (.astore_n 3, 1) := by decide +kernel
theorem d24_9 : decode jdk_42_method_150_code 9 = .ok (.aload_n 1, 1) := by decide +kernel
theorem d24_10 : decode jdk_42_method_150_code 10 = .ok (.invokevirtual 549, 3) := by decide +kernel
theorem d24_13 : decode jdk_42_method_150_code 13 = .ok (.istore 4, 2) := by decide +kernel
theorem d24_15 : decode jdk_42_method_150_code 15 = .ok (.aload_n 1, 1) := by decide +kernel
theorem d24_16 : decode jdk_42_method_150_code 16 = .ok (.invokevirtual 1047, 3) := by decide +kernel
theorem d24_19 : decode jdk_42_method_150_code 19 = .ok (.ifCond .eq 22, 3) := by decide +kernel
theorem d24_22 : decode jdk_42_method_150_code 22 = .ok (.aload_n 0, 1) := by decide +kernel
theorem d24_23 : decode jdk_42_method_150_code 23 = .ok (.iconst 0, 1) := by decide +kernel
theorem d24_24 : decode jdk_42_method_150_code 24 = .ok (.putfield 15, 3) := by decide +kernel
theorem d24_27 : decode jdk_42_method_150_code 27 = .ok (.aload_n 0, 1) := by decide +kernel
theorem d24_28 : decode jdk_42_method_150_code 28 = .ok (.aload_n 3, 1) := by decide +kernel
theorem d24_29 : decode jdk_42_method_150_code 29 = .ok (.iconst 0, 1) := by decide +kernel
theorem d24_30 : decode jdk_42_method_150_code 30 = .ok (.iload 4, 2) := by decide +kernel
theorem d24_32 : decode jdk_42_method_150_code 32 = .ok (.invokestatic 54, 3) := by decide +kernel
theorem d24_35 : decode jdk_42_method_150_code 35 = .ok (.putfield 9, 3) := by decide +kernel
theorem d24_38 : decode jdk_42_method_150_code 38 = .ok (.goto 59, 3) := by decide +kernel
theorem d24_97 : decode jdk_42_method_150_code 97 = .ok (.return_, 1) := by decide +kernel
theorem d23_0 : decode jdk_42_method_53_code 0 = .ok (.aload_n 0, 1) := by decide +kernel
theorem d23_1 : decode jdk_42_method_53_code 1 = .ok (.aload_n 1, 1) := by decide +kernel
theorem d23_2 : decode jdk_42_method_53_code 2 = .ok (.aconst_null, 1) := by decide +kernel
theorem d23_3 : decode jdk_42_method_53_code 3 = .ok (.invokespecial 489, 3) := by decide +kernel
theorem pd__Ljava_lang_AbstractStringBuilder_Ljava_lang_Void__V : parseMethodDescriptor "(Ljava/lang/AbstractStringBuilder;Ljava/lang/Void;)V" = some ⟨[(.object "java/lang/AbstractStringBuilder"), (.object "java/lang/Void")], none⟩ := by decide +kernel
theorem d23_6 : decode jdk_42_method_53_code 6 = .ok (.return_, 1) := by decide +kernel
theorem d22_0 : decode jdk_67_method_42_code 0 = .ok (.new 18, 3) := by decide +kernel
theorem d22_3 : decode jdk_67_method_42_code 3 = .ok (.dup, 1) := by decide +kernel
theorem d22_4 : decode jdk_67_method_42_code 4 = .ok (.aload_n 0, 1) := by decide +kernel
theorem d22_5 : decode jdk_67_method_42_code 5 = .ok (.invokespecial 137, 3) := by decide +kernel
theorem pd__Ljava_lang_StringBuilder__V : parseMethodDescriptor "(Ljava/lang/StringBuilder;)V" = some ⟨[(.object "java/lang/StringBuilder")], none⟩ := by decide +kernel
theorem d22_8 : decode jdk_67_method_42_code 8 = .ok (.areturn, 1) := by decide +kernel
theorem pn_java_lang_Long : plainName "java/lang/Long" = true := by first | (simp [plainName, overriddenIn]; done) | decide +kernel
theorem d11_0 : decode jdk_35_method_42_code 0 = .ok (.lload_n 0, 1) := by decide +kernel
theorem d11_1 : decode jdk_35_method_42_code 1 = .ok (.lload_n 2, 1) := by decide +kernel
theorem d11_2 : decode jdk_35_method_42_code 2 = .ok (.lcmp, 1) := by decide +kernel
theorem d11_3 : decode jdk_35_method_42_code 3 = .ok (.ifCond .ge 7, 3) := by decide +kernel
theorem d11_6 : decode jdk_35_method_42_code 6 = .ok (.iconst (-1), 1) := by decide +kernel
theorem d11_7 : decode jdk_35_method_42_code 7 = .ok (.goto 14, 3) := by decide +kernel
theorem d11_21 : decode jdk_35_method_42_code 21 = .ok (.ireturn, 1) := by decide +kernel
theorem d11_10 : decode jdk_35_method_42_code 10 = .ok (.lload_n 0, 1) := by decide +kernel
theorem d11_11 : decode jdk_35_method_42_code 11 = .ok (.lload_n 2, 1) := by decide +kernel
theorem d11_12 : decode jdk_35_method_42_code 12 = .ok (.lcmp, 1) := by decide +kernel
theorem d11_13 : decode jdk_35_method_42_code 13 = .ok (.ifCond .ne 7, 3) := by decide +kernel
theorem d11_20 : decode jdk_35_method_42_code 20 = .ok (.iconst 1, 1) := by decide +kernel
theorem d11_16 : decode jdk_35_method_42_code 16 = .ok (.iconst 0, 1) := by decide +kernel
theorem d11_17 : decode jdk_35_method_42_code 17 = .ok (.goto 4, 3) := by decide +kernel
theorem d10_0 : decode jdk_35_method_43_code 0 = .ok (.lload_n 0, 1) := by decide +kernel
theorem d10_1 : decode jdk_35_method_43_code 1 = .ok (.ldc2_w 168, 3) := by decide +kernel
theorem d10_4 : decode jdk_35_method_43_code 4 = .ok (.ladd, 1) := by decide +kernel
theorem d10_5 : decode jdk_35_method_43_code 5 = .ok (.lload_n 2, 1) := by decide +kernel
theorem d10_6 : decode jdk_35_method_43_code 6 = .ok (.ldc2_w 168, 3) := by decide +kernel
theorem d10_9 : decode jdk_35_method_43_code 9 = .ok (.ladd, 1) := by decide +kernel
theorem d10_10 : decode jdk_35_method_43_code 10 = .ok (.invokestatic 302, 3) := by decide +kernel
theorem pd__JJ_I : parseMethodDescriptor "(JJ)I" = some ⟨[.long, .long], some .int⟩ := by decide +kernel
theorem d10_13 : decode jdk_35_method_43_code 13 = .ok (.ireturn, 1) := by decide +kernel
theorem pn_java_lang_Integer : plainName "java/lang/Integer" = true := by first | (simp [plainName, overriddenIn]; done) | decide +kernel
theorem d45_0 : decode jdk_33_method_47_code 0 = .ok (.iload_n 0, 1) := by decide +kernel
theorem d45_1 : decode jdk_33_method_47_code 1 = .ok (.ifCond .gt 14, 3) := by decide +kernel
theorem d45_4 : decode jdk_33_method_47_code 4 = .ok (.iload_n 0, 1) := by decide +kernel
theorem d45_5 : decode jdk_33_method_47_code 5 = .ok (.ifCond .ne 8, 3) := by decide +kernel
theorem d45_13 : decode jdk_33_method_47_code 13 = .ok (.iconst 0, 1) := by decide +kernel
theorem d45_14 : decode jdk_33_method_47_code 14 = .ok (.ireturn, 1) := by decide +kernel
theorem d45_8 : decode jdk_33_method_47_code 8 = .ok (.bipush 32, 2) := by decide +kernel
theorem d45_10 : decode jdk_33_method_47_code 10 = .ok (.goto 4, 3) := by decide +kernel
theorem d45_73 : decode jdk_33_method_47_code 73 = .ok (.iload_n 1, 1) := by decide +kernel
theorem d45_74 : decode jdk_33_method_47_code 74 = .ok (.iload_n 0, 1) := by decide +kernel
theorem d45_75 : decode jdk_33_method_47_code 75 = .ok (.iconst 1, 1) := by decide +kernel
theorem d45_76 : decode jdk_33_method_47_code 76 = .ok (.iushr, 1) := by decide +kernel
theorem d45_77 : decode jdk_33_method_47_code 77 = .ok (.isub, 1) := by decide +kernel
theorem d45_78 : decode jdk_33_method_47_code 78 = .ok (.ireturn, 1) := by decide +kernel
theorem d45_61 : decode jdk_33_method_47_code 61 = .ok (.iload_n 0, 1) := by decide +kernel
theorem d45_62 : decode jdk_33_method_47_code 62 = .ok (.iconst 4, 1) := by decide +kernel
theorem d45_63 : decode jdk_33_method_47_code 63 = .ok (.if_icmp .lt 10, 3) := by decide +kernel
theorem d45_66 : decode jdk_33_method_47_code 66 = .ok (.iinc 1 (-2), 3) := by decide +kernel
theorem d45_69 : decode jdk_33_method_47_code 69 = .ok (.iload_n 0, 1) := by decide +kernel
theorem d45_70 : decode jdk_33_method_47_code 70 = .ok (.iconst 2, 1) := by decide +kernel
theorem d45_71 : decode jdk_33_method_47_code 71 = .ok (.iushr, 1) := by decide +kernel
theorem d45_72 : decode jdk_33_method_47_code 72 = .ok (.istore_n 0, 1) := by decide +kernel
theorem d45_48 : decode jdk_33_method_47_code 48 = .ok (.iload_n 0, 1) := by decide +kernel
theorem d45_49 : decode jdk_33_method_47_code 49 = .ok (.bipush 16, 2) := by decide +kernel
theorem d45_51 : decode jdk_33_method_47_code 51 = .ok (.if_icmp .lt 10, 3) := by decide +kernel
theorem d45_54 : decode jdk_33_method_47_code 54 = .ok (.iinc 1 (-4), 3) := by decide +kernel
theorem d45_57 : decode jdk_33_method_47_code 57 = .ok (.iload_n 0, 1) := by decide +kernel
theorem d45_58 : decode jdk_33_method_47_code 58 = .ok (.iconst 4, 1) := by decide +kernel
theorem d45_59 : decode jdk_33_method_47_code 59 = .ok (.iushr, 1) := by decide +kernel
theorem d45_60 : decode jdk_33_method_47_code 60 = .ok (.istore_n 0, 1) := by decide +kernel
theorem d45_33 : decode jdk_33_method_47_code 33 = .ok (.iload_n 0, 1) := by decide +kernel
theorem d45_34 : decode jdk_33_method_47_code 34 = .ok (.sipush 256, 3) := by decide +kernel
theorem d45_37 : decode jdk_33_method_47_code 37 = .ok (.if_icmp .lt 11, 3) := by decide +kernel
theorem d45_40 : decode jdk_33_method_47_code 40 = .ok (.iinc 1 (-8), 3) := by decide +kernel
theorem d45_43 : decode jdk_33_method_47_code 43 = .ok (.iload_n 0, 1) := by decide +kernel
theorem d45_44 : decode jdk_33_method_47_code 44 = .ok (.bipush 8, 2) := by decide +kernel
theorem d45_46 : decode jdk_33_method_47_code 46 = .ok (.iushr, 1) := by decide +kernel
theorem d45_47 : decode jdk_33_method_47_code 47 = .ok (.istore_n 0, 1) := by decide +kernel
theorem d45_18 : decode jdk_33_method_47_code 18 = .ok (.iload_n 0, 1) := by decide +kernel
theorem d45_19 : decode jdk_33_method_47_code 19 = .ok (.ldc_w 264, 3) := by decide +kernel
theorem d45_22 : decode jdk_33_method_47_code 22 = .ok (.if_icmp .lt 11, 3) := by decide +kernel
theorem d45_25 : decode jdk_33_method_47_code 25 = .ok (.iinc 1 (-16), 3) := by decide +kernel
theorem d45_28 : decode jdk_33_method_47_code 28 = .ok (.iload_n 0, 1) := by decide +kernel
theorem d45_29 : decode jdk_33_method_47_code 29 = .ok (.bipush 16, 2) := by decide +kernel
theorem d45_31 : decode jdk_33_method_47_code 31 = .ok (.iushr, 1) := by decide +kernel
theorem d45_32 : decode jdk_33_method_47_code 32 = .ok (.istore_n 0, 1) := by decide +kernel
theorem d45_15 : decode jdk_33_method_47_code 15 = .ok (.bipush 31, 2) := by decide +kernel
theorem d45_17 : decode jdk_33_method_47_code 17 = .ok (.istore_n 1, 1) := by decide +kernel
theorem d44_0 : decode jdk_35_method_48_code 0 = .ok (.lload_n 0, 1) := by decide +kernel
theorem d44_1 : decode jdk_35_method_48_code 1 = .ok (.bipush 32, 2) := by decide +kernel
theorem d44_3 : decode jdk_35_method_48_code 3 = .ok (.lushr, 1) := by decide +kernel
theorem d44_4 : decode jdk_35_method_48_code 4 = .ok (.l2i, 1) := by decide +kernel
theorem d44_5 : decode jdk_35_method_48_code 5 = .ok (.istore_n 2, 1) := by decide +kernel
theorem d44_6 : decode jdk_35_method_48_code 6 = .ok (.iload_n 2, 1) := by decide +kernel
theorem d44_7 : decode jdk_35_method_48_code 7 = .ok (.ifCond .ne 14, 3) := by decide +kernel
theorem d44_21 : decode jdk_35_method_48_code 21 = .ok (.iload_n 2, 1) := by decide +kernel
theorem d44_22 : decode jdk_35_method_48_code 22 = .ok (.invokestatic 308, 3) := by decide +kernel
theorem pd__I_I : parseMethodDescriptor "(I)I" = some ⟨[.int], some .int⟩ := by decide +kernel
theorem d44_25 : decode jdk_35_method_48_code 25 = .ok (.ireturn, 1) := by decide +kernel
theorem d44_10 : decode jdk_35_method_48_code 10 = .ok (.bipush 32, 2) := by decide +kernel
theorem d44_12 : decode jdk_35_method_48_code 12 = .ok (.lload_n 0, 1) := by decide +kernel
theorem d44_13 : decode jdk_35_method_48_code 13 = .ok (.l2i, 1) := by decide +kernel
theorem d44_14 : decode jdk_35_method_48_code 14 = .ok (.invokestatic 308, 3) := by decide +kernel
theorem d44_17 : decode jdk_35_method_48_code 17 = .ok (.iadd, 1) := by decide +kernel
theorem d44_18 : decode jdk_35_method_48_code 18 = .ok (.goto 7, 3) := by decide +kernel
theorem d46_0 : decode jdk_29_method_65_code 0 = .ok (.iload_n 0, 1) := by decide +kernel
theorem d46_1 : decode jdk_29_method_65_code 1 = .ok (.iload_n 1, 1) := by decide +kernel
theorem d46_2 : decode jdk_29_method_65_code 2 = .ok (.if_icmp .lt 7, 3) := by decide +kernel
theorem d46_9 : decode jdk_29_method_65_code 9 = .ok (.iload_n 1, 1) := by decide +kernel
theorem d46_10 : decode jdk_29_method_65_code 10 = .ok (.ireturn, 1) := by decide +kernel
theorem d46_5 : decode jdk_29_method_65_code 5 = .ok (.iload_n 0, 1) := by decide +kernel
theorem d46_6 : decode jdk_29_method_65_code 6 = .ok (.goto 4, 3) := by decide +kernel
theorem pn_com_example_patterns_to_partitions_patternstopartitions_key_UintKey : plainName "com/example/patterns_to_partitions/patternstopartitions/key/UintKey" = true := by first | (simp [plainName, overriddenIn]; done) | decide +kernel
theorem d43_0 : decode prog_26_method_5_code 0 = .ok (.bipush 64, 2) := by decide +kernel
theorem d43_2 : decode prog_26_method_5_code 2 = .ok (.lload_n 0, 1) := by decide +kernel
theorem d43_3 : decode prog_26_method_5_code 3 = .ok (.invokestatic 79, 3) := by decide +kernel
theorem pd__J_I : parseMethodDescriptor "(J)I" = some ⟨[.long], some .int⟩ := by decide +kernel
theorem d43_6 : decode prog_26_method_5_code 6 = .ok (.isub, 1) := by decide +kernel
theorem d43_7 : decode prog_26_method_5_code 7 = .ok (.istore_n 2, 1) := by decide +kernel
theorem d43_8 : decode prog_26_method_5_code 8 = .ok (.iconst 1, 1) := by decide +kernel
theorem d43_9 : decode prog_26_method_5_code 9 = .ok (.iload_n 2, 1) := by decide +kernel
theorem d43_10 : decode prog_26_method_5_code 10 = .ok (.bipush 7, 2) := by decide +kernel
theorem d43_12 : decode prog_26_method_5_code 12 = .ok (.iadd, 1) := by decide +kernel
theorem d43_13 : decode prog_26_method_5_code 13 = .ok (.bipush 8, 2) := by decide +kernel
theorem d43_15 : decode prog_26_method_5_code 15 = .ok (.idiv, 1) := by decide +kernel
theorem d43_16 : decode prog_26_method_5_code 16 = .ok (.invokestatic 82, 3) := by decide +kernel
theorem d43_19 : decode prog_26_method_5_code 19 = .ok (.ireturn, 1) := by decide +kernel
theorem d7_0 : decode prog_26_method_2_code 0 = .ok (.new 11, 3) := by decide +kernel
theorem d7_3 : decode prog_26_method_2_code 3 = .ok (.dup, 1) := by decide +kernel
theorem d7_4 : decode prog_26_method_2_code 4 = .ok (.bipush 20, 2) := by decide +kernel
theorem d7_6 : decode prog_26_method_2_code 6 = .ok (.invokespecial 13, 3) := by decide +kernel
theorem d7_124 : decode prog_26_method_2_code 124 = .ok (.aload_n 2, 1) := by decide +kernel
theorem d7_125 : decode prog_26_method_2_code 125 = .ok (.invokevirtual 36, 3) := by decide +kernel
theorem pd___Ljava_lang_String_ : parseMethodDescriptor "()Ljava/lang/String;" = some ⟨[], some (.object "java/lang/String")⟩ := by decide +kernel
theorem d7_128 : decode prog_26_method_2_code 128 = .ok (.areturn, 1) := by decide +kernel
theorem d7_99 : decode prog_26_method_2_code 99 = .ok (.iload 6, 2) := by decide +kernel
theorem d7_101 : decode prog_26_method_2_code 101 = .ok (.ifCond .lt 23, 3) := by decide +kernel
theorem d7_104 : decode prog_26_method_2_code 104 = .ok (.getstatic 22, 3) := by decide +kernel
theorem d7_107 : decode prog_26_method_2_code 107 = .ok (.aload_n 2, 1) := by decide +kernel
theorem d7_108 : decode prog_26_method_2_code 108 = .ok (.lload_n 3, 1) := by decide +kernel
theorem d7_109 : decode prog_26_method_2_code 109 = .ok (.iload 6, 2) := by decide +kernel
theorem d7_111 : decode prog_26_method_2_code 111 = .ok (.lushr, 1) := by decide +kernel
theorem d7_112 : decode prog_26_method_2_code 112 = .ok (.l2i, 1) := by decide +kernel
theorem d7_113 : decode prog_26_method_2_code 113 = .ok (.i2b, 1) := by decide +kernel
theorem d7_114 : decode prog_26_method_2_code 114 = .ok (.invokevirtual 26, 3) := by decide +kernel
theorem pd__Ljava_lang_Appendable_B_Ljava_lang_Appendable_ : parseMethodDescriptor "(Ljava/lang/Appendable;B)Ljava/lang/Appendable;" = some ⟨[(.object "java/lang/Appendable"), .byte], some (.object "java/lang/Appendable")⟩ := by decide +kernel
theorem d7_117 : decode prog_26_method_2_code 117 = .ok (.pop, 1) := by decide +kernel
theorem d7_118 : decode prog_26_method_2_code 118 = .ok (.iinc 6 (-8), 3) := by decide +kernel
theorem d7_121 : decode prog_26_method_2_code 121 = .ok (.goto (-22), 3) := by decide +kernel
theorem d7_9 : decode prog_26_method_2_code 9 = .ok (.astore_n 2, 1) := by decide +kernel
theorem d7_10 : decode prog_26_method_2_code 10 = .ok (.lload_n 0, 1) := by decide +kernel
theorem d7_11 : decode prog_26_method_2_code 11 = .ok (.ldc2_w 16, 3) := by decide +kernel
theorem d7_14 : decode prog_26_method_2_code 14 = .ok (.invokestatic 18, 3) := by decide +kernel
theorem d7_17 : decode prog_26_method_2_code 17 = .ok (.ifCond .ge 17, 3) := by decide +kernel
theorem d7_20 : decode prog_26_method_2_code 20 = .ok (.getstatic 22, 3) := by decide +kernel
theorem d7_23 : decode prog_26_method_2_code 23 = .ok (.aload_n 2, 1) := by decide +kernel
theorem d7_24 : decode prog_26_method_2_code 24 = .ok (.lload_n 0, 1) := by decide +kernel
theorem d7_25 : decode prog_26_method_2_code 25 = .ok (.l2i, 1) := by decide +kernel
theorem d7_26 : decode prog_26_method_2_code 26 = .ok (.i2b, 1) := by decide +kernel
theorem d7_27 : decode prog_26_method_2_code 27 = .ok (.invokevirtual 26, 3) := by decide +kernel
theorem d7_30 : decode prog_26_method_2_code 30 = .ok (.pop, 1) := by decide +kernel
theorem d7_31 : decode prog_26_method_2_code 31 = .ok (.goto 93, 3) := by decide +kernel
theorem d7_34 : decode prog_26_method_2_code 34 = .ok (.lload_n 0, 1) := by decide +kernel
theorem d7_35 : decode prog_26_method_2_code 35 = .ok (.ldc2_w 16, 3) := by decide +kernel
theorem d7_38 : decode prog_26_method_2_code 38 = .ok (.lsub, 1) := by decide +kernel
theorem d7_39 : decode prog_26_method_2_code 39 = .ok (.lstore_n 3, 1) := by decide +kernel
theorem d7_40 : decode prog_26_method_2_code 40 = .ok (.lload_n 3, 1) := by decide +kernel
theorem d7_41 : decode prog_26_method_2_code 41 = .ok (.invokestatic 32, 3) := by decide +kernel
theorem d7_44 : decode prog_26_method_2_code 44 = .ok (.istore 5, 2) := by decide +kernel
theorem d7_46 : decode prog_26_method_2_code 46 = .ok (.iload 5, 2) := by decide +kernel
theorem d7_48 : decode prog_26_method_2_code 48 = .ok (.iconst 4, 1) := by decide +kernel
theorem d7_49 : decode prog_26_method_2_code 49 = .ok (.if_icmp .gt 21, 3) := by decide +kernel
theorem d7_52 : decode prog_26_method_2_code 52 = .ok (.getstatic 22, 3) := by decide +kernel
theorem d7_55 : decode prog_26_method_2_code 55 = .ok (.aload_n 2, 1) := by decide +kernel
theorem d7_56 : decode prog_26_method_2_code 56 = .ok (.sipush 250, 3) := by decide +kernel
theorem d7_59 : decode prog_26_method_2_code 59 = .ok (.iload 5, 2) := by decide +kernel
theorem d7_61 : decode prog_26_method_2_code 61 = .ok (.iadd, 1) := by decide +kernel
theorem d7_62 : decode prog_26_method_2_code 62 = .ok (.i2b, 1) := by decide +kernel
theorem d7_63 : decode prog_26_method_2_code 63 = .ok (.invokevirtual 26, 3) := by decide +kernel
theorem d7_66 : decode prog_26_method_2_code 66 = .ok (.pop, 1) := by decide +kernel
theorem d7_67 : decode prog_26_method_2_code 67 = .ok (.goto 23, 3) := by decide +kernel
theorem d7_90 : decode prog_26_method_2_code 90 = .ok (.bipush 8, 2) := by decide +kernel
theorem d7_92 : decode prog_26_method_2_code 92 = .ok (.iload 5, 2) := by decide +kernel
theorem d7_94 : decode prog_26_method_2_code 94 = .ok (.iconst 1, 1) := by decide +kernel
theorem d7_95 : decode prog_26_method_2_code 95 = .ok (.isub, 1) := by decide +kernel
theorem d7_96 : decode prog_26_method_2_code 96 = .ok (.imul, 1) := by decide +kernel
theorem d7_97 : decode prog_26_method_2_code 97 = .ok (.istore 6, 2) := by decide +kernel
theorem d7_70 : decode prog_26_method_2_code 70 = .ok (.getstatic 22, 3) := by decide +kernel
theorem d7_73 : decode prog_26_method_2_code 73 = .ok (.aload_n 2, 1) := by decide +kernel
theorem d7_74 : decode prog_26_method_2_code 74 = .ok (.iconst (-1), 1) := by decide +kernel
theorem d7_75 : decode prog_26_method_2_code 75 = .ok (.invokevirtual 26, 3) := by decide +kernel
theorem d7_78 : decode prog_26_method_2_code 78 = .ok (.pop, 1) := by decide +kernel
theorem d7_79 : decode prog_26_method_2_code 79 = .ok (.getstatic 22, 3) := by decide +kernel
theorem d7_82 : decode prog_26_method_2_code 82 = .ok (.aload_n 2, 1) := by decide +kernel
theorem d7_83 : decode prog_26_method_2_code 83 = .ok (.iload 5, 2) := by decide +kernel
theorem d7_85 : decode prog_26_method_2_code 85 = .ok (.i2b, 1) := by decide +kernel
theorem d7_86 : decode prog_26_method_2_code 86 = .ok (.invokevirtual 26, 3) := by decide +kernel
theorem d7_89 : decode prog_26_method_2_code 89 = .ok (.pop, 1) := by decide +kernel
theorem d33_0 : decode jdk_42_method_55_code 0 = .ok (.aload_n 0, 1) := by decide +kernel
theorem d33_1 : decode jdk_42_method_55_code 1 = .ok (.getfield 9, 3) := by decide +kernel
theorem d33_4 : decode jdk_42_method_55_code 4 = .ok (.arraylength, 1) := by decide +kernel
theorem d33_5 : decode jdk_42_method_55_code 5 = .ok (.ifCond .ne 7, 3) := by decide +kernel
theorem d33_12 : decode jdk_42_method_55_code 12 = .ok (.iconst 0, 1) := by decide +kernel
theorem d33_13 : decode jdk_42_method_55_code 13 = .ok (.ireturn, 1) := by decide +kernel
theorem d42_0 : decode prog_26_method_7_code 0 = .ok (.iload_n 0, 1) := by decide +kernel
theorem d42_1 : decode prog_26_method_7_code 1 = .ok (.bipush 48, 2) := by decide +kernel
theorem d42_3 : decode prog_26_method_7_code 3 = .ok (.if_icmp .lt 17, 3) := by decide +kernel
theorem d42_6 : decode prog_26_method_7_code 6 = .ok (.iload_n 0, 1) := by decide +kernel
theorem d42_7 : decode prog_26_method_7_code 7 = .ok (.bipush 57, 2) := by decide +kernel
theorem d42_9 : decode prog_26_method_7_code 9 = .ok (.if_icmp .gt 11, 3) := by decide +kernel
theorem d42_12 : decode prog_26_method_7_code 12 = .ok (.iload_n 0, 1) := by decide +kernel
theorem d42_13 : decode prog_26_method_7_code 13 = .ok (.bipush 48, 2) := by decide +kernel
theorem d42_15 : decode prog_26_method_7_code 15 = .ok (.isub, 1) := by decide +kernel
theorem d42_16 : decode prog_26_method_7_code 16 = .ok (.istore_n 1, 1) := by decide +kernel
theorem d42_17 : decode prog_26_method_7_code 17 = .ok (.goto 28, 3) := by decide +kernel
theorem d42_45 : decode prog_26_method_7_code 45 = .ok (.iload_n 1, 1) := by decide +kernel
theorem d42_46 : decode prog_26_method_7_code 46 = .ok (.ireturn, 1) := by decide +kernel
theorem d42_20 : decode prog_26_method_7_code 20 = .ok (.iload_n 0, 1) := by decide +kernel
theorem d42_21 : decode prog_26_method_7_code 21 = .ok (.bipush 97, 2) := by decide +kernel
theorem d42_23 : decode prog_26_method_7_code 23 = .ok (.if_icmp .lt 20, 3) := by decide +kernel
theorem d42_26 : decode prog_26_method_7_code 26 = .ok (.iload_n 0, 1) := by decide +kernel
theorem d42_27 : decode prog_26_method_7_code 27 = .ok (.bipush 102, 2) := by decide +kernel
theorem d42_29 : decode prog_26_method_7_code 29 = .ok (.if_icmp .gt 14, 3) := by decide +kernel
theorem d42_32 : decode prog_26_method_7_code 32 = .ok (.iload_n 0, 1) := by decide +kernel
theorem d42_33 : decode prog_26_method_7_code 33 = .ok (.bipush 97, 2) := by decide +kernel
theorem d42_35 : decode prog_26_method_7_code 35 = .ok (.isub, 1) := by decide +kernel
theorem d42_36 : decode prog_26_method_7_code 36 = .ok (.bipush 10, 2) := by decide +kernel
theorem d42_38 : decode prog_26_method_7_code 38 = .ok (.iadd, 1) := by decide +kernel
theorem d42_39 : decode prog_26_method_7_code 39 = .ok (.istore_n 1, 1) := by decide +kernel
theorem d42_40 : decode prog_26_method_7_code 40 = .ok (.goto 5, 3) := by decide +kernel
theorem d36_0 : decode prog_26_method_6_code 0 = .ok (.aload_n 0, 1) := by decide +kernel
theorem d36_1 : decode prog_26_method_6_code 1 = .ok (.iconst 2, 1) := by decide +kernel
theorem d36_2 : decode prog_26_method_6_code 2 = .ok (.iload_n 2, 1) := by decide +kernel
theorem d36_3 : decode prog_26_method_6_code 3 = .ok (.imul, 1) := by decide +kernel
theorem d36_4 : decode prog_26_method_6_code 4 = .ok (.invokevirtual 88, 3) := by decide +kernel
theorem d36_7 : decode prog_26_method_6_code 7 = .ok (.invokestatic 92, 3) := by decide +kernel
theorem pd__C_I : parseMethodDescriptor "(C)I" = some ⟨[.char], some .int⟩ := by decide +kernel
theorem d36_10 : decode prog_26_method_6_code 10 = .ok (.istore_n 3, 1) := by decide +kernel
theorem d36_11 : decode prog_26_method_6_code 11 = .ok (.aload_n 0, 1) := by decide +kernel
theorem d36_12 : decode prog_26_method_6_code 12 = .ok (.iconst 2, 1) := by decide +kernel
theorem d36_13 : decode prog_26_method_6_code 13 = .ok (.iload_n 2, 1) := by decide +kernel
theorem d36_14 : decode prog_26_method_6_code 14 = .ok (.imul, 1) := by decide +kernel
theorem d36_15 : decode prog_26_method_6_code 15 = .ok (.iconst 1, 1) := by decide +kernel
theorem d36_16 : decode prog_26_method_6_code 16 = .ok (.iadd, 1) := by decide +kernel
theorem d36_17 : decode prog_26_method_6_code 17 = .ok (.invokevirtual 88, 3) := by decide +kernel
theorem d36_20 : decode prog_26_method_6_code 20 = .ok (.invokestatic 92, 3) := by decide +kernel
theorem d36_23 : decode prog_26_method_6_code 23 = .ok (.istore 4, 2) := by decide +kernel
theorem d36_25 : decode prog_26_method_6_code 25 = .ok (.iload_n 3, 1) := by decide +kernel
theorem d36_26 : decode prog_26_method_6_code 26 = .ok (.ifCond .lt 8, 3) := by decide +kernel
theorem d36_29 : decode prog_26_method_6_code 29 = .ok (.iload 4, 2) := by decide +kernel
theorem d36_31 : decode prog_26_method_6_code 31 = .ok (.ifCond .ge 11, 3) := by decide +kernel
theorem d36_42 : decode prog_26_method_6_code 42 = .ok (.iload_n 3, 1) := by decide +kernel
theorem d36_43 : decode prog_26_method_6_code 43 = .ok (.iconst 4, 1) := by decide +kernel
theorem d36_44 : decode prog_26_method_6_code 44 = .ok (.ishl, 1) := by decide +kernel
theorem d36_45 : decode prog_26_method_6_code 45 = .ok (.iload 4, 2) := by decide +kernel
theorem d36_47 : decode prog_26_method_6_code 47 = .ok (.ior, 1) := by decide +kernel
theorem d36_48 : decode prog_26_method_6_code 48 = .ok (.ireturn, 1) := by decide +kernel
theorem d32_180 : decode prog_26_method_4_code 180 = .ok (.iload 8, 2) := by decide +kernel
theorem d32_182 : decode prog_26_method_4_code 182 = .ok (.iload 5, 2) := by decide +kernel
theorem d32_184 : decode prog_26_method_4_code 184 = .ok (.if_icmp .ge 25, 3) := by decide +kernel
theorem d32_209 : decode prog_26_method_4_code 209 = .ok (.iload_n 3, 1) := by decide +kernel
theorem d32_210 : decode prog_26_method_4_code 210 = .ok (.ifCond .le 30, 3) := by decide +kernel
theorem d32_240 : decode prog_26_method_4_code 240 = .ok (.lload 6, 2) := by decide +kernel
theorem d32_242 : decode prog_26_method_4_code 242 = .ok (.lreturn, 1) := by decide +kernel
theorem d32_213 : decode prog_26_method_4_code 213 = .ok (.lload 6, 2) := by decide +kernel
theorem d32_215 : decode prog_26_method_4_code 215 = .ok (.ldc2_w 75, 3) := by decide +kernel
theorem d32_218 : decode prog_26_method_4_code 218 = .ok (.invokestatic 18, 3) := by decide +kernel
theorem d32_221 : decode prog_26_method_4_code 221 = .ok (.ifCond .le 11, 3) := by decide +kernel
theorem d32_232 : decode prog_26_method_4_code 232 = .ok (.lload 6, 2) := by decide +kernel
theorem d32_234 : decode prog_26_method_4_code 234 = .ok (.ldc2_w 16, 3) := by decide +kernel
theorem d32_237 : decode prog_26_method_4_code 237 = .ok (.ladd, 1) := by decide +kernel
theorem d32_238 : decode prog_26_method_4_code 238 = .ok (.lstore 6, 2) := by decide +kernel
theorem d32_187 : decode prog_26_method_4_code 187 = .ok (.lload 6, 2) := by decide +kernel
theorem d32_189 : decode prog_26_method_4_code 189 = .ok (.bipush 8, 2) := by decide +kernel
theorem d32_191 : decode prog_26_method_4_code 191 = .ok (.lshl, 1) := by decide +kernel
theorem d32_192 : decode prog_26_method_4_code 192 = .ok (.aload_n 0, 1) := by decide +kernel
theorem d32_193 : decode prog_26_method_4_code 193 = .ok (.aload_n 1, 1) := by decide +kernel
theorem d32_194 : decode prog_26_method_4_code 194 = .ok (.iload 8, 2) := by decide +kernel
theorem d32_196 : decode prog_26_method_4_code 196 = .ok (.invokestatic 62, 3) := by decide +kernel
theorem pd__Ljava_lang_String_Ljava_lang_String_I_I : parseMethodDescriptor "(Ljava/lang/String;Ljava/lang/String;I)I" = some ⟨[(.object "java/lang/String"), (.object "java/lang/String"), .int], some .int⟩ := by decide +kernel
theorem d32_199 : decode prog_26_method_4_code 199 = .ok (.i2l, 1) := by decide +kernel
theorem d32_200 : decode prog_26_method_4_code 200 = .ok (.lor, 1) := by decide +kernel
theorem d32_201 : decode prog_26_method_4_code 201 = .ok (.lstore 6, 2) := by decide +kernel
theorem d32_203 : decode prog_26_method_4_code 203 = .ok (.iinc 8 1, 3) := by decide +kernel
theorem d32_206 : decode prog_26_method_4_code 206 = .ok (.goto (-26), 3) := by decide +kernel
theorem d32_174 : decode prog_26_method_4_code 174 = .ok (.lconst 0, 1) := by decide +kernel
theorem d32_175 : decode prog_26_method_4_code 175 = .ok (.lstore 6, 2) := by decide +kernel
theorem d32_177 : decode prog_26_method_4_code 177 = .ok (.iload_n 3, 1) := by decide +kernel
theorem d32_178 : decode prog_26_method_4_code 178 = .ok (.istore 8, 2) := by decide +kernel
theorem d32_119 : decode prog_26_method_4_code 119 = .ok (.iload_n 3, 1) := by decide +kernel
theorem d32_120 : decode prog_26_method_4_code 120 = .ok (.iload 4, 2) := by decide +kernel
theorem d32_122 : decode prog_26_method_4_code 122 = .ok (.iadd, 1) := by decide +kernel
theorem d32_123 : decode prog_26_method_4_code 123 = .ok (.istore 5, 2) := by decide +kernel
theorem d32_125 : decode prog_26_method_4_code 125 = .ok (.aload_n 0, 1) := by decide +kernel
theorem d32_126 : decode prog_26_method_4_code 126 = .ok (.invokevirtual 52, 3) := by decide +kernel
theorem d32_129 : decode prog_26_method_4_code 129 = .ok (.iconst 2, 1) := by decide +kernel
theorem d32_130 : decode prog_26_method_4_code 130 = .ok (.iload 5, 2) := by decide +kernel
theorem d32_132 : decode prog_26_method_4_code 132 = .ok (.imul, 1) := by decide +kernel
theorem d32_133 : decode prog_26_method_4_code 133 = .ok (.if_icmp .eq 18, 3) := by decide +kernel
theorem d32_151 : decode prog_26_method_4_code 151 = .ok (.iload 4, 2) := by decide +kernel
theorem d32_153 : decode prog_26_method_4_code 153 = .ok (.iconst 1, 1) := by decide +kernel
theorem d32_154 : decode prog_26_method_4_code 154 = .ok (.if_icmp .le 20, 3) := by decide +kernel
theorem d32_157 : decode prog_26_method_4_code 157 = .ok (.aload_n 0, 1) := by decide +kernel
theorem d32_158 : decode prog_26_method_4_code 158 = .ok (.aload_n 1, 1) := by decide +kernel
theorem d32_159 : decode prog_26_method_4_code 159 = .ok (.iload_n 3, 1) := by decide +kernel
theorem d32_160 : decode prog_26_method_4_code 160 = .ok (.invokestatic 62, 3) := by decide +kernel
theorem d32_163 : decode prog_26_method_4_code 163 = .ok (.ifCond .ne 11, 3) := by decide +kernel
theorem d32_0 : decode prog_26_method_4_code 0 = .ok (.aload_n 0, 1) := by decide +kernel
theorem d32_1 : decode prog_26_method_4_code 1 = .ok (.invokevirtual 46, 3) := by decide +kernel
theorem d32_4 : decode prog_26_method_4_code 4 = .ok (.ifCond .ne 12, 3) := by decide +kernel
theorem d32_7 : decode prog_26_method_4_code 7 = .ok (.aload_n 0, 1) := by decide +kernel
theorem d32_8 : decode prog_26_method_4_code 8 = .ok (.invokevirtual 52, 3) := by decide +kernel
theorem d32_11 : decode prog_26_method_4_code 11 = .ok (.iconst 2, 1) := by decide +kernel
theorem d32_12 : decode prog_26_method_4_code 12 = .ok (.irem, 1) := by decide +kernel
theorem d32_13 : decode prog_26_method_4_code 13 = .ok (.ifCond .eq 11, 3) := by decide +kernel
theorem d32_24 : decode prog_26_method_4_code 24 = .ok (.aload_n 0, 1) := by decide +kernel
theorem d32_25 : decode prog_26_method_4_code 25 = .ok (.aload_n 1, 1) := by decide +kernel
theorem d32_26 : decode prog_26_method_4_code 26 = .ok (.iconst 0, 1) := by decide +kernel
theorem d32_27 : decode prog_26_method_4_code 27 = .ok (.invokestatic 62, 3) := by decide +kernel
theorem d32_30 : decode prog_26_method_4_code 30 = .ok (.istore_n 2, 1) := by decide +kernel
theorem d32_31 : decode prog_26_method_4_code 31 = .ok (.iload_n 2, 1) := by decide +kernel
theorem d32_32 : decode prog_26_method_4_code 32 = .ok (.sipush 251, 3) := by decide +kernel
theorem d32_35 : decode prog_26_method_4_code 35 = .ok (.if_icmp .ge 11, 3) := by decide +kernel
theorem d32_38 : decode prog_26_method_4_code 38 = .ok (.iconst 0, 1) := by decide +kernel
theorem d32_39 : decode prog_26_method_4_code 39 = .ok (.istore_n 3, 1) := by decide +kernel
theorem d32_40 : decode prog_26_method_4_code 40 = .ok (.iconst 1, 1) := by decide +kernel
theorem d32_41 : decode prog_26_method_4_code 41 = .ok (.istore 4, 2) := by decide +kernel
theorem d32_43 : decode prog_26_method_4_code 43 = .ok (.goto 76, 3) := by decide +kernel
theorem d32_46 : decode prog_26_method_4_code 46 = .ok (.iload_n 2, 1) := by decide +kernel
theorem d32_47 : decode prog_26_method_4_code 47 = .ok (.sipush 255, 3) := by decide +kernel
theorem d32_50 : decode prog_26_method_4_code 50 = .ok (.if_icmp .ge 17, 3) := by decide +kernel
theorem d32_53 : decode prog_26_method_4_code 53 = .ok (.iconst 1, 1) := by decide +kernel
theorem d32_54 : decode prog_26_method_4_code 54 = .ok (.istore_n 3, 1) := by decide +kernel
theorem d32_55 : decode prog_26_method_4_code 55 = .ok (.iload_n 2, 1) := by decide +kernel
theorem d32_56 : decode prog_26_method_4_code 56 = .ok (.sipush 251, 3) := by decide +kernel
theorem d32_59 : decode prog_26_method_4_code 59 = .ok (.isub, 1) := by decide +kernel
theorem d32_60 : decode prog_26_method_4_code 60 = .ok (.iconst 1, 1) := by decide +kernel
theorem d32_61 : decode prog_26_method_4_code 61 = .ok (.iadd, 1) := by decide +kernel
theorem d32_62 : decode prog_26_method_4_code 62 = .ok (.istore 4, 2) := by decide +kernel
theorem d32_64 : decode prog_26_method_4_code 64 = .ok (.goto 55, 3) := by decide +kernel
theorem d32_67 : decode prog_26_method_4_code 67 = .ok (.aload_n 0, 1) := by decide +kernel
theorem d32_68 : decode prog_26_method_4_code 68 = .ok (.invokevirtual 52, 3) := by decide +kernel
theorem d32_71 : decode prog_26_method_4_code 71 = .ok (.iconst 4, 1) := by decide +kernel
theorem d32_72 : decode prog_26_method_4_code 72 = .ok (.if_icmp .ge 11, 3) := by decide +kernel
theorem d32_83 : decode prog_26_method_4_code 83 = .ok (.iconst 2, 1) := by decide +kernel
theorem d32_84 : decode prog_26_method_4_code 84 = .ok (.istore_n 3, 1) := by decide +kernel
theorem d32_85 : decode prog_26_method_4_code 85 = .ok (.aload_n 0, 1) := by decide +kernel
theorem d32_86 : decode prog_26_method_4_code 86 = .ok (.aload_n 1, 1) := by decide +kernel
theorem d32_87 : decode prog_26_method_4_code 87 = .ok (.iconst 1, 1) := by decide +kernel
theorem d32_88 : decode prog_26_method_4_code 88 = .ok (.invokestatic 62, 3) := by decide +kernel
theorem d32_91 : decode prog_26_method_4_code 91 = .ok (.istore 4, 2) := by decide +kernel
theorem d32_93 : decode prog_26_method_4_code 93 = .ok (.iload 4, 2) := by decide +kernel
theorem d32_95 : decode prog_26_method_4_code 95 = .ok (.iconst 4, 1) := by decide +kernel
theorem d32_96 : decode prog_26_method_4_code 96 = .ok (.if_icmp .le 10, 3) := by decide +kernel
theorem d32_99 : decode prog_26_method_4_code 99 = .ok (.iload 4, 2) := by decide +kernel
theorem d32_101 : decode prog_26_method_4_code 101 = .ok (.bipush 8, 2) := by decide +kernel
theorem d32_103 : decode prog_26_method_4_code 103 = .ok (.if_icmp .le 16, 3) := by decide +kernel
theorem pn_com_example_patterns_to_partitions_patternstopartitions_key_UintKeyDecodePinLaw : plainName "com/example/patterns_to_partitions/patternstopartitions/key/UintKeyDecodePinLaw" = true := by first | (simp [plainName, overriddenIn]; done) | decide +kernel
theorem pd___C_V : parseMethodDescriptor "([C)V" = some ⟨[(.array .char)], none⟩ := by decide +kernel
theorem pd__J_Ljava_lang_String_ : parseMethodDescriptor "(J)Ljava/lang/String;" = some ⟨[.long], some (.object "java/lang/String")⟩ := by decide +kernel
theorem pd__Ljava_lang_String_Ljava_lang_String__J : parseMethodDescriptor "(Ljava/lang/String;Ljava/lang/String;)J" = some ⟨[(.object "java/lang/String"), (.object "java/lang/String")], some .long⟩ := by decide +kernel
/-! the digits -/
def own_dg (k : Nat) : Int32 := if k < 10 then Int32.ofNat (48 + k) else Int32.ofNat (87 + k)
def own_sb (q : Nat) : Int32 := (Int32.ofNat q).toInt8.toInt32
theorem own_hi : ∀ q, q < 256 → ((own_sb q) >>> ((4 : Int32) &&& 31)) &&& 15 = Int32.ofNat (q / 16) := by decide +kernel
theorem own_lo : ∀ q, q < 256 → (own_sb q) &&& 15 = Int32.ofNat (q % 16) := by decide +kernel
theorem own_dgc : ∀ k, k < 16 → (own_dg k).toUInt32.toUInt16.toUInt32.toInt32 = own_dg k := by decide +kernel
theorem own_dgb : ∀ k, k < 16 → (own_dg k).toInt8.toInt32 = own_dg k := by decide +kernel
theorem own_dgr : ∀ k, k < 16 → ¬ own_dg k < 0 ∧ ¬ (255 : Int32) < own_dg k := by decide +kernel
theorem own_dgn : ∀ k, k < 16 → nar .char (own_dg k) = own_dg k := by decide +kernel
theorem own_pos : ∀ k, k < 64 → ¬ Int32.ofNat k < 0 := by decide +kernel
theorem own_clamp : ∀ k, k < 64 → (Int32.ofNat k).toNatClampNeg = k := by decide +kernel
theorem own_lt16 : ∀ k, k < 16 → Int32.ofNat k < 16 := by decide +kernel
theorem own_lt20 : ∀ k, k < 20 → Int32.ofNat k < 20 := by decide +kernel
theorem own_tab (k : Nat) (hk : k < 16) : ((List.range 16).map fun k => Value.int (own_dg k)).getD (Int32.ofNat k).toNatClampNeg (.int 0) = .int (own_dg k) := by
  rw [own_clamp k (by omega), List.getD_eq_getElem?_getD, List.getElem?_map, List.getElem?_range hk]; rfl
def own_cs (bs : List Nat) : List Int32 := bs.flatMap fun q => [own_dg (q / 16), own_dg (q % 16)]
theorem own_cs_app (a b : List Nat) : own_cs (a ++ b) = own_cs a ++ own_cs b := by simp [own_cs]
theorem own_cs_cons (q : Nat) (b : List Nat) : own_cs (q :: b) = own_dg (q / 16) :: own_dg (q % 16) :: own_cs b := by simp [own_cs]
theorem own_cs_one (q : Nat) : own_cs [q] = [own_dg (q / 16), own_dg (q % 16)] := by simp [own_cs]
theorem own_cs_len : ∀ bs : List Nat, (own_cs bs).length = 2 * bs.length
  | [] => rfl
  | q :: b => by rw [own_cs_cons]; simp only [List.length_cons, own_cs_len b]; omega
theorem own_cs_h : ∀ (bs : List Nat) (i : Nat), i < bs.length → (own_cs bs).getD (2 * i) 0 = own_dg (bs.getD i 0 / 16)
  | [], i, h => nomatch h
  | q :: b, 0, h => by rw [own_cs_cons]; rfl
  | q :: b, i + 1, h => by
    rw [own_cs_cons, show 2 * (i + 1) = 2 * i + 1 + 1 by omega, List.getD_cons_succ, List.getD_cons_succ, List.getD_cons_succ]
    exact own_cs_h b i (by simpa using h)
theorem own_cs_l : ∀ (bs : List Nat) (i : Nat), i < bs.length → (own_cs bs).getD (2 * i + 1) 0 = own_dg (bs.getD i 0 % 16)
  | [], i, h => nomatch h
  | q :: b, 0, h => by rw [own_cs_cons]; rfl
  | q :: b, i + 1, h => by
    rw [own_cs_cons, show 2 * (i + 1) + 1 = 2 * i + 1 + 1 + 1 by omega, List.getD_cons_succ, List.getD_cons_succ, List.getD_cons_succ]
    exact own_cs_l b i (by simpa using h)
theorem own_cs_r (bs : List Nat) (h : ∀ q ∈ bs, q < 256) : ∀ c ∈ own_cs bs, ¬ c < 0 ∧ ¬ (255 : Int32) < c := fun c hc => by
  obtain ⟨q, hq, e⟩ := List.mem_flatMap.mp hc
  have := h q hq
  simp only [List.mem_cons, List.not_mem_nil, or_false] at e
  rcases e with rfl | rfl
  · exact own_dgr _ (by omega)
  · exact own_dgr _ (by omega)
theorem own_cs_b (bs : List Nat) (h : ∀ q ∈ bs, q < 256) : (own_cs bs).map (fun c => c.toInt8.toInt32) = own_cs bs := by
  conv => rhs; rw [← List.map_id (own_cs bs)]
  refine List.map_congr_left fun c hc => ?_
  obtain ⟨q, hq, e⟩ := List.mem_flatMap.mp hc
  have := h q hq
  simp only [List.mem_cons, List.not_mem_nil, or_false] at e
  rcases e with rfl | rfl
  · exact own_dgb _ (by omega)
  · exact own_dgb _ (by omega)
theorem own_gd (bs : List Nat) (i : Nat) (h : ∀ q ∈ bs, q < 256) : bs.getD i 0 < 256 := by
  rw [List.getD_eq_getElem?_getD]
  cases e : bs[i]? with
  | none => decide
  | some q => exact h q (List.mem_of_getElem? e)
/-! the builder's bytes -/
def own_pad (cs : List Int32) : List Value := ((cs.map fun c : Int32 => c.toInt8.toInt32) ++ List.replicate (20 - cs.length) 0).map Value.int
theorem own_pad_len (cs : List Int32) (h : cs.length ≤ 20) : (own_pad cs).length = 20 := by simp [own_pad]; omega
theorem own_pad_0 : own_pad [] = List.replicate 20 (Value.int 0) := by decide
theorem own_b8 (c : Int32) : nar .byte (c.toInt8.toInt32) = c.toInt8.toInt32 := by
  show (c.toInt8.toInt32).toInt8.toInt32 = _
  rw [Int8.toInt8_toInt32]
theorem own_pad_set (cs : List Int32) (c : Int32) (h : cs.length < 20) : (own_pad cs).set cs.length (.int c.toInt8.toInt32) = own_pad (cs ++ [c]) := by
  obtain ⟨k, hk⟩ : ∃ k, 20 - cs.length = k + 1 := ⟨20 - cs.length - 1, by omega⟩
  unfold own_pad
  rw [← List.map_set, hk, List.replicate_succ, show 20 - (cs ++ [c]).length = k by simp; omega]
  congr 1
  rw [List.map_append, List.set_append_right _ _ (by simp)]
  simp
theorem own_pad_20 (cs : List Int32) (h : cs.length = 20) : own_pad cs = (cs.map fun c => c.toInt8.toInt32).map Value.int := by
  unfold own_pad; rw [h]; simp
theorem own_pad_cp (cs : List Int32) (h : cs.length ≤ 20) : (List.range cs.length).map (fun i => (own_pad cs).getD (0 + i) (.int 0)) = (cs.map fun c => c.toInt8.toInt32).map Value.int := by
  refine List.ext_getElem (by simp) fun i h1 h2 => ?_
  have hi : i < cs.length := by simpa using h1
  simp only [List.getElem_map, List.getElem_range, Nat.zero_add, own_pad]
  rw [List.getD_eq_getElem?_getD, List.getElem?_map, List.getElem?_append_left (by simpa using hi), List.getElem?_map, List.getElem?_eq_getElem hi]
  rfl
/-! the number's bytes -/
def own_fe (o : Nat) : Nat → List Nat
  | 0 => []
  | n + 1 => (o / 256 ^ n % 256) :: own_fe o n
theorem own_fe_len (o : Nat) : ∀ n, (own_fe o n).length = n
  | 0 => rfl
  | n + 1 => by simp [own_fe, own_fe_len o n]
theorem own_fe_lt (o : Nat) : ∀ n, ∀ q ∈ own_fe o n, q < 256
  | 0, q, h => nomatch h
  | n + 1, q, h => by
    rcases List.mem_cons.mp h with rfl | h
    · exact Nat.mod_lt _ (by decide)
    · exact own_fe_lt o n q h
theorem own_fe_get (o : Nat) : ∀ L n, n < L → (own_fe o L).getD (L - (n + 1)) 0 = o / 256 ^ n % 256
  | 0, n, h => nomatch h
  | L + 1, n, h => by
    by_cases q : n = L
    · subst q; rw [Nat.sub_self]; rfl
    · rw [show L + 1 - (n + 1) = (L - (n + 1)) + 1 by omega]
      exact own_fe_get o L n (by omega)
theorem own_step (o n : Nat) : o / 256 ^ (n + 1) * 256 + o / 256 ^ n % 256 = o / 256 ^ n := by
  rw [Nat.pow_succ, ← Nat.div_div_eq_div_mul]; omega
def own_bl (u : Nat) : Nat := if u = 0 then 0 else u.log2 + 1
theorem own_bl_uniq {u b : Nat} (h1 : 2 ^ b ≤ u) (h2 : u < 2 ^ (b + 1)) : own_bl u = b + 1 := by
  have h0 : u ≠ 0 := by have := Nat.two_pow_pos b; omega
  rw [own_bl, if_neg h0, (Nat.log2_eq_iff h0).mpr ⟨h1, h2⟩]
theorem own_bl_lt (u : Nat) : u < 2 ^ own_bl u := by
  unfold own_bl; split
  · subst_vars; decide
  · exact Nat.lt_log2_self
theorem own_bl_le {u : Nat} (h : u ≠ 0) : 2 ^ (own_bl u - 1) ≤ u := by
  rw [own_bl, if_neg h]; exact Nat.log2_self_le h
theorem own_bl_div {u k : Nat} (h : 2 ^ k ≤ u) : own_bl u = own_bl (u / 2 ^ k) + k := by
  have hk := Nat.two_pow_pos k
  have h0 : u / 2 ^ k ≠ 0 := by
    have := Nat.div_pos h hk; omega
  obtain ⟨b, hb⟩ : ∃ b, own_bl (u / 2 ^ k) = b + 1 := ⟨(u / 2 ^ k).log2, by rw [own_bl, if_neg h0]⟩
  have h1 := own_bl_le h0
  have h2 := own_bl_lt (u / 2 ^ k)
  rw [hb] at h1 h2 ⊢
  rw [Nat.add_sub_cancel] at h1
  rw [show b + 1 + k = (b + k) + 1 by omega]
  refine own_bl_uniq ?_ ?_
  · rw [Nat.pow_add]; exact (Nat.le_div_iff_mul_le hk).mp h1
  · rw [show b + k + 1 = (b + 1) + k by omega, Nat.pow_add]; exact (Nat.div_lt_iff_lt_mul hk).mp h2
theorem own_bl_top {u n : Nat} (h : u < 2 ^ n) : own_bl u ≤ n := by
  unfold own_bl; split
  · omega
  · rename_i h0; exact (Nat.log2_lt h0).mpr h
def own_L (o : Nat) : Nat := max 1 ((own_bl o + 7) / 8)
theorem own_L_spec {o : Nat} (h : o < 2 ^ 64) : 1 ≤ own_L o ∧ own_L o ≤ 8 ∧ o < 256 ^ own_L o ∧ (1 < own_L o → 256 ^ (own_L o - 1) ≤ o) := by
  have hb := own_bl_top h
  have e : ∀ n, 256 ^ n = 2 ^ (8 * n) := fun n => by rw [Nat.pow_mul]
  refine ⟨by unfold own_L; omega, by unfold own_L; omega, ?_, fun h1 => ?_⟩
  · rw [e]; exact Nat.lt_of_lt_of_le (own_bl_lt o) (Nat.pow_le_pow_right (by decide) (by unfold own_L; omega))
  · have h0 : o ≠ 0 := fun q => by subst q; revert h1; decide
    rw [e]; exact Nat.le_trans (Nat.pow_le_pow_right (by decide) (by unfold own_L at h1 ⊢; omega)) (own_bl_le h0)
/-! words -/
def own_N (x : Int64) : Nat := x.toUInt64.toNat
def own_u (x : Int32) : Nat := x.toUInt32.toNat
theorem own_N_lt (x : Int64) : own_N x < 2 ^ 64 := x.toUInt64.toNat_lt
theorem own_u_lt (x : Int32) : own_u x < 2 ^ 32 := x.toUInt32.toNat_lt
theorem own_N_of (x : Int64) : Int64.ofNat (own_N x) = x := by
  apply Int64.toBitVec_inj.mp
  show BitVec.ofNat 64 x.toBitVec.toNat = _
  rw [BitVec.ofNat_toNat]; simp
theorem own_u_of (x : Int32) : Int32.ofNat (own_u x) = x := by
  apply Int32.toBitVec_inj.mp
  show BitVec.ofNat 32 x.toBitVec.toNat = _
  rw [BitVec.ofNat_toNat]; simp
theorem own_N_mk (n : Nat) (h : n < 2 ^ 64) : own_N (Int64.ofNat n) = n := by
  show (BitVec.ofNat 64 n).toNat = n
  rw [BitVec.toNat_ofNat, Nat.mod_eq_of_lt h]
theorem own_toInt (x : Int64) : (x + (-9223372036854775808 : Int64)).toInt = (own_N x : Int) - 9223372036854775808 := by
  show (x.toBitVec + BitVec.ofNat 64 9223372036854775808).toInt = _
  have := own_N_lt x
  have e : (own_N x) = x.toBitVec.toNat := rfl
  rw [BitVec.toInt_eq_toNat_cond, BitVec.toNat_add, BitVec.toNat_ofNat, ← e]
  omega
theorem own_ult (x y : Int64) : x + (-9223372036854775808 : Int64) < y + (-9223372036854775808 : Int64) ↔ own_N x < own_N y := by
  rw [Int64.lt_iff_toInt_lt, own_toInt, own_toInt]; omega
theorem own_byte (x : Int64) : x.toInt32.toInt8.toInt32 = own_sb (own_N x % 256) := by
  have e : x.toInt32.toInt8 = (Int32.ofNat (own_N x % 256)).toInt8 := by
    apply Int8.toBitVec_inj.mp
    apply BitVec.eq_of_toNat_eq
    rw [Int32.toBitVec_toInt8, Int32.toBitVec_toInt8, Int64.toBitVec_toInt32, BitVec.signExtend_eq_setWidth_of_le _ (by decide), BitVec.signExtend_eq_setWidth_of_le _ (by decide), BitVec.signExtend_eq_setWidth_of_le _ (by decide)]
    show _ = ((BitVec.ofNat 32 (x.toBitVec.toNat % 256)).setWidth 8).toNat
    simp only [BitVec.toNat_setWidth, BitVec.toNat_ofNat]
    omega
  rw [own_sb, e]
theorem own_ush (x : Int64) (k : Nat) (y : Int32) (hk : k < 64) (e : ((y &&& 0x3f).toInt64.toUInt64).toNat = k) : own_N (x.toUInt64 >>> (y &&& 0x3f).toInt64.toUInt64).toInt64 = own_N x / 2 ^ k := by
  show (x.toUInt64 >>> (y &&& 0x3f).toInt64.toUInt64).toNat = _
  rw [UInt64.toNat_shiftRight, e, Nat.mod_eq_of_lt hk, Nat.shiftRight_eq_div_pow]; rfl
theorem own_sh8 : ∀ i, i < 8 → (((Int32.ofNat (8 * i)) &&& 0x3f).toInt64.toUInt64).toNat = 8 * i := by decide +kernel
theorem own_shb (x : Int64) (i : Nat) (hi : i < 8) : (x.toUInt64 >>> ((Int32.ofNat (8 * i)) &&& 0x3f).toInt64.toUInt64).toInt64.toInt32.toInt8.toInt32 = own_sb (own_N x / 256 ^ i % 256) := by
  rw [own_byte, own_ush x (8 * i) _ (by omega) (own_sh8 i hi), show (256 : Nat) = 2 ^ 8 from rfl, ← Nat.pow_mul]
theorem own_lor (a b : Nat) (hb : b < 256) : (Int64.ofNat a <<< ((8 : Int32) &&& 0x3f).toInt64) ||| (Int32.ofNat b).toInt64 = Int64.ofNat (a * 256 + b) := by
  have e1 : ((8 : Int32) &&& 0x3f).toInt64 = 8 := by decide
  have e2 : (Int32.ofNat b).toInt64 = Int64.ofNat b := by
    apply Int64.toInt_inj.mp
    rw [Int32.toInt_toInt64, Int32.toInt_ofNat_of_lt (by omega), Int64.toInt_ofNat_of_lt (by omega)]
  rw [e1, e2]
  apply Int64.toBitVec_inj.mp
  apply BitVec.eq_of_toNat_eq
  show ((BitVec.ofNat 64 a <<< (8 : Nat)) ||| BitVec.ofNat 64 b).toNat = (BitVec.ofNat 64 (a * 256 + b)).toNat
  simp only [BitVec.toNat_or, BitVec.toNat_shiftLeft, BitVec.toNat_ofNat]
  rw [Nat.shiftLeft_eq, Nat.mod_mul_mod, show a * 2 ^ 8 % 2 ^ 64 = (a % 2 ^ 56) * 2 ^ 8 by omega, Nat.mod_eq_of_lt (show b < 2 ^ 64 by omega), ← Nat.shiftLeft_eq, ← Nat.shiftLeft_add_eq_or_of_lt (show b < 2 ^ 8 by omega), Nat.shiftLeft_eq]
  omega
theorem own_u_lo (x : Int64) : own_u x.toInt32 = own_N x % 2 ^ 32 := by
  show x.toInt32.toBitVec.toNat = _
  rw [Int64.toBitVec_toInt32, BitVec.signExtend_eq_setWidth_of_le _ (by decide), BitVec.toNat_setWidth]; rfl
theorem own_32 : ((((32 : Int32) &&& 0x3f).toInt64.toUInt64).toNat) = 32 := by decide
theorem own_u_hi (x : Int64) : own_u (x.toUInt64 >>> ((32 : Int32) &&& 0x3f).toInt64.toUInt64).toInt64.toInt32 = own_N x / 2 ^ 32 := by
  rw [own_u_lo, own_ush x 32 _ (by decide) own_32, Nat.mod_eq_of_lt]
  have := own_N_lt x; omega
theorem own_u_neg {x : Int32} (h : ¬ 0 < x) (h0 : ¬ x = 0) : own_bl (own_u x) = 32 := by
  have e : x.toInt = if 2 * own_u x < 2 ^ 32 then (own_u x : Int) else (own_u x : Int) - (2 ^ 32 : Nat) := BitVec.toInt_eq_toNat_cond x.toBitVec
  have h1 : own_u x ≠ 0 := fun q => h0 (by rw [← own_u_of x, q]; rfl)
  rw [Int32.lt_iff_toInt_lt] at h
  have e0 : (0 : Int32).toInt = 0 := rfl
  have := own_u_lt x
  refine own_bl_uniq (b := 31) ?_ (own_u_lt x)
  split at e <;> omega
theorem own_u_pos {x : Int32} (h : 0 < x) : 0 < own_u x ∧ own_u x < 2 ^ 31 := by
  have e : x.toInt = if 2 * own_u x < 2 ^ 32 then (own_u x : Int) else (own_u x : Int) - (2 ^ 32 : Nat) := BitVec.toInt_eq_toNat_cond x.toBitVec
  rw [Int32.lt_iff_toInt_lt] at h
  have e0 : (0 : Int32).toInt = 0 := rfl
  have := own_u_lt x
  split at e <;> omega
theorem own_ltI {a b : Nat} (ha : a < 2 ^ 31) (hb : b < 2 ^ 31) : Int32.ofNat a < Int32.ofNat b ↔ a < b := by
  rw [Int32.lt_iff_toInt_lt, Int32.toInt_ofNat_of_lt (by omega), Int32.toInt_ofNat_of_lt (by omega)]; omega
theorem own_ushI (u k : Nat) (y : Int32) (hu : u < 2 ^ 31) (hk : k < 32) (e : (y &&& 31).toUInt32.toNat = k) : ((Int32.ofNat u).toUInt32 >>> (y &&& 31).toUInt32).toInt32 = Int32.ofNat (u / 2 ^ k) := by
  apply Int32.toBitVec_inj.mp
  apply BitVec.eq_of_toNat_eq
  show ((Int32.ofNat u).toUInt32 >>> (y &&& 31).toUInt32).toNat = (BitVec.ofNat 32 (u / 2 ^ k)).toNat
  rw [UInt32.toNat_shiftRight, e, Nat.mod_eq_of_lt hk, Nat.shiftRight_eq_div_pow, BitVec.toNat_ofNat]
  have e1 : (Int32.ofNat u).toUInt32.toNat = u := by
    show (BitVec.ofNat 32 u).toNat = u
    rw [BitVec.toNat_ofNat]; omega
  rw [e1, Nat.mod_eq_of_lt]
  exact Nat.lt_of_le_of_lt (Nat.div_le_self _ _) (by omega)
theorem own_bl64 (n : Nat) (h : n < 2 ^ 64) : (n / 2 ^ 32 = 0 → own_bl n = own_bl (n % 2 ^ 32)) ∧ (n / 2 ^ 32 ≠ 0 → own_bl n = own_bl (n / 2 ^ 32) + 32) :=
  ⟨fun q => by rw [Nat.mod_eq_of_lt (by omega)], fun q => own_bl_div (by omega)⟩
theorem own_s64 : ∀ b, b < 65 → ((64 : Int32) - Int32.ofNat (64 - b) + 7) / 8 = Int32.ofNat ((b + 7) / 8) := by decide +kernel
theorem own_max1 : ∀ b, b < 65 → ((1 : Int32) < Int32.ofNat ((b + 7) / 8) → Int32.ofNat ((b + 7) / 8) = Int32.ofNat (max 1 ((b + 7) / 8))) ∧ (¬ (1 : Int32) < Int32.ofNat ((b + 7) / 8) → (1 : Int32) = Int32.ofNat (max 1 ((b + 7) / 8))) := by decide +kernel
theorem own_32a : ∀ b, b < 33 → (32 : Int32) + Int32.ofNat (32 - b) = Int32.ofNat (64 - b) := by decide +kernel
theorem own_nlz4 : ∀ n, n < 32 → ∀ u, u < 4 → 0 < u → own_bl u + (31 - n) ≤ 31 → Int32.ofNat n - Int32.ofNat (u / 2) = Int32.ofNat (32 - (own_bl u + (31 - n))) := by decide +kernel
theorem own_mul2 : ∀ i, i < 16 → (2 : Int32) * Int32.ofNat i = Int32.ofNat (2 * i) := by decide +kernel
theorem own_mul21 : ∀ i, i < 16 → (2 : Int32) * Int32.ofNat i + 1 = Int32.ofNat (2 * i + 1) := by decide +kernel
theorem own_hl : ∀ a, a < 16 → ∀ b, b < 16 → (Int32.ofNat a <<< ((4 : Int32) &&& 31)) ||| Int32.ofNat b = Int32.ofNat (a * 16 + b) := by decide +kernel
theorem own_hx1 : ∀ k, k < 16 → ¬ own_dg k < 48 → ¬ (57 : Int32) < own_dg k → own_dg k - 48 = Int32.ofNat k := by decide +kernel
theorem own_hx2 : ∀ k, k < 16 → (own_dg k < 48 ∨ (57 : Int32) < own_dg k) → ¬ own_dg k < 97 ∧ ¬ (102 : Int32) < own_dg k ∧ own_dg k - 97 + 10 = Int32.ofNat k := by decide +kernel
theorem own_cmpT (x y : Int64) : own_N x < own_N y ∨ ¬ own_N x < own_N y := Decidable.em _
theorem own_lc_lt {x y : Int64} : lcmpW x y < 0 ↔ x < y := by
  unfold lcmpW
  by_cases h : y < x
  · have : ¬ x < y := by rw [Int64.lt_iff_toInt_lt] at h ⊢; omega
    simp [h, this]
  · by_cases q : x = y
    · subst q; simp [h]
    · have : x < y := by rw [Int64.lt_iff_toInt_lt] at h ⊢; have : x.toInt ≠ y.toInt := fun z => q (Int64.toInt_inj.mp z); omega
      simp +decide [h, q, this]
theorem own_lc_eq {x y : Int64} : lcmpW x y = 0 ↔ x = y := by
  unfold lcmpW
  by_cases h : y < x
  · have : ¬ x = y := fun q => by subst q; rw [Int64.lt_iff_toInt_lt] at h; omega
    simp +decide [h, this]
  · by_cases q : x = y
    · subst q; simp [h]
    · simp +decide [h, q]
theorem own_inc (n : Nat) : Int32.ofNat n + 1 = Int32.ofNat (n + 1) := (Int32.ofNat_add n 1).symm
theorem own_cap : ∀ k, k < 21 → ¬ (0 : Int32) < Int32.ofNat k - ((20 : Int32) >>> ((0 : Int32) &&& 31)) := by decide +kernel
/-- a builder of capacity 20 that holds the chars cs -/
def own_B (Z : State) (h : Heap) (a b : Addr) (kb : ClassId) (cs : List Int32) : Prop := Exa Z h a "java/lang/StringBuilder" ∧ Fld Z h a "java/lang/AbstractStringBuilder" "value" "[B" (.ref b) ∧ Fld Z h a "java/lang/AbstractStringBuilder" "coder" "B" (.int 0) ∧ Fld Z h a "java/lang/AbstractStringBuilder" "count" "I" (.int (Int32.ofNat cs.length)) ∧ Arv Z h b kb .byte (20 : Int32) (own_pad cs) (.int 0) ∧ Exa Z h b "[B" ∧ a ≠ b
theorem own_B.ext {Z : State} {h h' : Heap} {a b : Addr} {kb : ClassId} {cs : List Int32} (S : own_B Z h a b kb cs) (E : Ext h h') : own_B Z h' a b kb cs := ⟨S.1.ext E, S.2.1.ext E, S.2.2.1.ext E, S.2.2.2.1.ext E, S.2.2.2.2.1.ext E, S.2.2.2.2.2.1.ext E, S.2.2.2.2.2.2⟩
abbrev own_T := Addr × Addr × ClassId
/-- HEX and its digits -/
def own_H (Z : State) (T : own_T) : Prop := Sta Z Z.heap "com/example/patterns_to_partitions/patternstopartitions/key/UintKey" "HEX" "Ljava/util/HexFormat;" (.ref T.1) ∧ Exa Z Z.heap T.1 "java/util/HexFormat" ∧ Fld Z Z.heap T.1 "java/util/HexFormat" "digits" "[B" (.ref T.2.1) ∧ Arv Z Z.heap T.2.1 T.2.2 .byte (16 : Int32) ((List.range 16).map fun k => Value.int (own_dg k)) (.int 0)
def own_key (V : Nat) (x : Int64) : List Nat := if V < 251 then [V] else (if own_L (own_N x) ≤ 4 then [250 + own_L (own_N x)] else [255, own_L (own_N x)]) ++ own_fe (own_N x) (own_L (own_N x))
theorem own_b250 : ∀ L, L < 5 → ((250 : Int32) + Int32.ofNat L).toInt8.toInt32 = own_sb (250 + L) := by decide +kernel
theorem own_bL : ∀ L, L < 9 → (Int32.ofNat L).toInt8.toInt32 = own_sb L := by decide +kernel
theorem own_m1 : (-1 : Int32) = own_sb 255 := by decide
theorem own_gt4 : ∀ L, L < 9 → ((4 : Int32) < Int32.ofNat L ↔ 4 < L) := by decide +kernel
theorem own_s0 : ∀ L, L < 9 → (8 : Int32) * (Int32.ofNat L - 1) = Int32.ofNat (8 * L) - 8 := by decide +kernel
theorem own_s1 : ∀ n, n < 8 → Int32.ofNat (8 * (n + 1)) - 8 = Int32.ofNat (8 * n) := by decide +kernel
theorem own_s2 : ∀ n, n < 8 → Int32.ofNat (8 * n) + (-8 : Int32) = Int32.ofNat (8 * n) - 8 := by decide +kernel
theorem own_s3 : Int32.ofNat (8 * 0) - 8 < 0 := by decide
theorem own_s4 : ∀ n, n < 8 → ¬ Int32.ofNat (8 * n) < 0 := by decide +kernel
theorem own_sub (v : Int64) (h : ¬ own_N v < 251) : own_N (v - 251) = own_N v - 251 := by
  show (v.toBitVec - BitVec.ofNat 64 251).toNat = _
  have e : own_N v = v.toBitVec.toNat := rfl
  have := own_N_lt v
  rw [BitVec.toNat_sub, BitVec.toNat_ofNat, ← e]; omega
theorem own_add (v : Int64) : v - 251 + 251 = v := by
  apply Int64.toBitVec_inj.mp
  show v.toBitVec - BitVec.ofNat 64 251 + BitVec.ofNat 64 251 = v.toBitVec
  exact BitVec.sub_add_cancel _ _
theorem own_N251 : own_N (251 : Int64) = 251 := by decide
theorem own_N252 : own_N (-252 : Int64) = 18446744073709551364 := by decide
theorem own_fe1 (V : Nat) (h : V < 251) : own_fe V 1 = [V] := by simp [own_fe]; omega
theorem own_tl : ∀ L, L < 5 → 0 < L → Int32.ofNat (250 + L) - 251 + 1 = Int32.ofNat L := by decide +kernel
theorem own_t1 : ∀ V, V < 251 → Int32.ofNat V < 251 := by decide +kernel
theorem own_t2 : ∀ L, L < 5 → 0 < L → ¬ Int32.ofNat (250 + L) < 251 ∧ Int32.ofNat (250 + L) < 255 := by decide +kernel
theorem own_t3 : ∀ L, L < 9 → 4 < L → (4 : Int32) < Int32.ofNat L ∧ ¬ (8 : Int32) < Int32.ofNat L := by decide +kernel
theorem own_stL : ∀ st, st < 3 → ∀ L, L < 9 → Int32.ofNat st + Int32.ofNat L = Int32.ofNat (st + L) := by decide +kernel
theorem own_2e : ∀ e, e < 11 → (2 : Int32) * Int32.ofNat e = Int32.ofNat (2 * e) := by decide +kernel
theorem own_ev : ∀ e, e < 11 → Int32.ofNat (2 * e) % 2 = 0 := by decide +kernel
theorem own_nz : ∀ e, e < 11 → 0 < e → ¬ Int32.ofNat (2 * e) = 0 := by decide +kernel
theorem own_gt1 : ∀ L, L < 9 → (¬ (1 : Int32) < Int32.ofNat L ↔ ¬ 1 < L) := by decide +kernel
theorem own_ge4 : ∀ e, e < 11 → 2 ≤ e → ¬ Int32.ofNat (2 * e) < 4 := by decide +kernel
theorem own_st0 : ∀ st, st < 3 → (0 < Int32.ofNat st ↔ 0 < st) := by decide +kernel
theorem own_nz8 : ∀ q, q < 256 → 0 < q → ¬ Int32.ofNat q = 0 := by decide +kernel
theorem own_gec : ∀ a, a < 11 → ∀ b, b < 11 → (Int32.ofNat a < Int32.ofNat b ↔ a < b) := by decide +kernel
theorem own_first {o L : Nat} (h1 : o < 256 ^ L) (h2 : 1 < L → 256 ^ (L - 1) ≤ o) (h : 1 < L) : 0 < o / 256 ^ (L - 1) % 256 := by
  have hp : 0 < 256 ^ (L - 1) := Nat.pow_pos (by decide)
  have a1 := Nat.div_pos (h2 h) hp
  have a2 : o / 256 ^ (L - 1) < 256 := by
    rw [Nat.div_lt_iff_lt_mul hp, ← Nat.pow_succ']; rwa [show (L - 1).succ = L by omega]
  rw [Nat.mod_eq_of_lt a2]; exact a1
theorem own_eq20 : ∀ k, k < 21 → Int32.ofNat k = 20 → k = 20 := by decide +kernel
theorem own_s0' (x : Int32) : x - 0 = x := Int32.sub_zero x
theorem own_min20 : ∀ k, k < 21 → ((Int32.ofNat k < (20 : Int32) - 0 → Int32.ofNat k = Int32.ofNat k) ∧ (¬ Int32.ofNat k < (20 : Int32) - 0 → (20 : Int32) - 0 = Int32.ofNat k)) := by decide +kernel
theorem own_cpus (cs : List Int32) (h : cs.length ≤ 20) : (cs.map fun c => c.toInt8.toInt32).map Value.int = (List.range (Int32.ofNat cs.length).toNatClampNeg).map fun i => (own_pad cs).getD ((0 : Int32).toNatClampNeg + i) (.int 0) := by
  rw [own_clamp _ (by omega)]; exact (own_pad_cp cs h).symm
theorem own_getD_app (us : List Value) (m i : Nat) (v : Value) : (us ++ List.replicate m v).getD i v = us.getD i v := by
  rw [List.getD_eq_getElem?_getD, List.getD_eq_getElem?_getD, List.getElem?_append]
  split
  · rfl
  · rename_i h
    rw [List.getElem?_eq_none (Nat.le_of_not_lt h), List.getElem?_replicate]
    split <;> rfl
theorem own_padr (us : List Value) (n : Nat) (v : Value) : ∀ i, us.getD i v = ((List.replicate 20 v).take (0 : Int32).toNatClampNeg ++ us ++ (List.replicate 20 v).drop ((0 : Int32).toNatClampNeg + n)).getD i v := fun i => by
  rw [show (0 : Int32).toNatClampNeg = 0 from rfl, List.take_zero, List.nil_append, List.drop_replicate, own_getD_app]
theorem own_key_len (V : Nat) (x : Int64) : (own_key V x).length ≤ 10 := by
  have h := own_L_spec (own_N_lt x)
  unfold own_key
  split
  · simp
  · rw [List.length_append, own_fe_len]; split <;> simp <;> omega
theorem own_key_lt (V : Nat) (x : Int64) : ∀ q ∈ own_key V x, q < 256 := fun q hq => by
  have h := own_L_spec (own_N_lt x)
  unfold own_key at hq
  split at hq
  · rw [List.mem_singleton] at hq; omega
  · rcases List.mem_append.mp hq with hq | hq
    · split at hq
      · rw [List.mem_singleton] at hq; omega
      · simp only [List.mem_cons, List.not_mem_nil, or_false] at hq; omega
    · exact own_fe_lt _ _ q hq
theorem own_asym {x y : Int64} (h : x < y) : ¬ y < x := by rw [Int64.lt_iff_toInt_lt] at h ⊢; omega
theorem own_tri {x y : Int64} (h : ¬ x < y) (q : ¬ x = y) : y < x := by
  rw [Int64.lt_iff_toInt_lt] at h ⊢; have : x.toInt ≠ y.toInt := fun z => q (Int64.toInt_inj.mp z); omega
theorem own_irr (x : Int64) : ¬ x < x := by rw [Int64.lt_iff_toInt_lt]; omega
theorem own_dec16 : ∀ n, n < 32 → 16 ≤ n → Int32.ofNat n + (-16 : Int32) = Int32.ofNat (n - 16) := by decide +kernel
theorem own_dec8 : ∀ n, n < 32 → 8 ≤ n → Int32.ofNat n + (-8 : Int32) = Int32.ofNat (n - 8) := by decide +kernel
theorem own_dec4 : ∀ n, n < 32 → 4 ≤ n → Int32.ofNat n + (-4 : Int32) = Int32.ofNat (n - 4) := by decide +kernel
theorem own_dec2 : ∀ n, n < 32 → 2 ≤ n → Int32.ofNat n + (-2 : Int32) = Int32.ofNat (n - 2) := by decide +kernel
theorem own_bl1 {u k : Nat} (h : 2 ^ k ≤ u) : k + 1 ≤ own_bl u := by
  have hp := Nat.two_pow_pos k
  have h0 : u ≠ 0 := by omega
  rw [own_bl, if_neg h0]; have := (Nat.le_log2 h0).mpr h; omega
theorem own_nat8 (x : Int32) : ∃ k : Nat, k < 256 ∧ x &&& 255 = Int32.ofNat k := by
  have h : (x &&& 255).toBitVec.toNat < 256 := by
    simp only [Int32.toBitVec_and, BitVec.toNat_and]
    exact Nat.lt_succ_of_le Nat.and_le_right
  refine ⟨_, h, ?_⟩
  apply Int32.toBitVec_inj.mp
  show _ = BitVec.ofNat 32 _
  rw [BitVec.ofNat_toNat]; simp
theorem own_255 (x : Int32) : ¬ x &&& 255 < 0 ∧ ¬ (255 : Int32) < x &&& 255 := by
  obtain ⟨k, hk, e⟩ := own_nat8 x
  rw [e]; exact (by decide +kernel : ∀ k, k < 256 → ¬ Int32.ofNat k < 0 ∧ ¬ (255 : Int32) < Int32.ofNat k) k hk
theorem own_nc (x : Int32) : nar .char (x &&& 255) = x &&& 255 := i2c_mask x
theorem own_shape (v : Int64) (hv : ¬ own_N v < 251) : ∃ st, (own_key (own_N v) (v - 251)).length = st + own_L (own_N (v - 251)) ∧ (∀ n, n < own_L (own_N (v - 251)) → (own_key (own_N v) (v - 251)).getD (st + (own_L (own_N (v - 251)) - (n + 1))) 0 = own_N (v - 251) / 256 ^ n % 256) ∧ ((st = 0 ∧ own_L (own_N (v - 251)) = 1 ∧ (own_key (own_N v) (v - 251)).getD 0 0 < 251) ∨ (st = 1 ∧ own_L (own_N (v - 251)) ≤ 4 ∧ (own_key (own_N v) (v - 251)).getD 0 0 = 250 + own_L (own_N (v - 251))) ∨ (st = 2 ∧ 4 < own_L (own_N (v - 251)) ∧ (own_key (own_N v) (v - 251)).getD 0 0 = 255 ∧ (own_key (own_N v) (v - 251)).getD 1 0 = own_L (own_N (v - 251)))) ∧ 0 < st := by
  rw [own_key, if_neg hv]
  by_cases h4 : own_L (own_N (v - 251)) ≤ 4
  · rw [if_pos h4]
    refine ⟨1, by rw [List.length_append, own_fe_len]; rfl, fun n hn => ?_, Or.inr (Or.inl ⟨rfl, h4, rfl⟩), by decide⟩
    rw [List.singleton_append, Nat.add_comm 1, List.getD_cons_succ]; exact own_fe_get _ _ n hn
  · rw [if_neg h4]
    refine ⟨2, by rw [List.length_append, own_fe_len]; rfl, fun n hn => ?_, Or.inr (Or.inr ⟨rfl, Nat.lt_of_not_le h4, rfl, rfl⟩), by decide⟩
    show (255 :: own_L (own_N (v - 251)) :: own_fe _ _).getD _ 0 = _
    rw [Nat.add_comm 2, List.getD_cons_succ, List.getD_cons_succ]; exact own_fe_get _ _ n hn
theorem own_get1 {V : Nat} (h : V < 251) : ∀ n, n < 1 → [V].getD (0 + (1 - (n + 1))) 0 = V / 256 ^ n % 256
  | 0, _ => by show V = V / 1 % 256; omega
  | n + 1, q => absurd q (by omega)
theorem own_ew {Z : State} {a0 : Array Value} (hw : ∀ d ∈ tables_1, d.before a0 Z = true) : EW Z a0 [] := EW.nil
theorem own_sat {Z : State} {a0 : Array Value} (hw : ∀ d ∈ tables_1, d.before a0 Z = true) : ∀ a ∈ Bundle.stringAtoms, a.before a0 Z = true := fun d hd => hw d ((by decide +kernel : ∀ d ∈ Bundle.stringAtoms, d ∈ tables_1) d hd)
/-- what a start's words say of an array and of a String -/
theorem own_arr {Z : State} {args : Array Value} {t : Term} {a : Addr} {ty : FieldType} {n : Int32} (ev : t.eval args Z none [] Z = some (.ref a)) (hx : (Cond.arrayOf t ty).value args Z none Z [] = some true) (hl : (Cond.eq (.length t) (.int n)).value args Z none Z [] = some true) :
    ∃ c, Arr Z Z.heap a c ty ∧ Z.arrayAt? a = some c ∧ c.slots.size < 2 ^ 31 ∧ c.slots.size.toInt32 = n := by
  obtain ⟨c, A⟩ := Arr.start ev hx
  have hA : Z.arrayAt? a = some c := Arr.fin (Vm.Alike.refl _) A
  have e := eqv_i (Term.int_eval n) hl
  obtain ⟨b, cell, e1, e2, e3, e4⟩ := Jvm.Lib.length_spec e
  obtain rfl : a = b := Value.ref.inj (Option.some.inj (ev.symm.trans e1))
  obtain rfl : c = cell := Option.some.inj (hA.symm.trans e2)
  exact ⟨c, A, hA, e3, (Value.int.inj e4).symm⟩
theorem own_eli {Z : State} {args : Array Value} {t : Term} {a : Addr} {c : Cell} (ev : t.eval args Z none [] Z = some (.ref a)) (hA : Z.arrayAt? a = some c) (j : Int32) (hj : ¬ j < 0) {v : Int32} (h : (Cond.eq (.elem t (.int j)) (.int v)).value args Z none Z [] = some true) : c.slots[j.toNatClampNeg]? = some (.int v) := by
  rw [← elem_f (idx := []) (first := Z) (o := none) ev (Term.int_eval j) hA hj]; exact eqv_i (Term.int_eval v) h
theorem own_elr {Z : State} {args : Array Value} {t u : Term} {a b : Addr} {c : Cell} (ev : t.eval args Z none [] Z = some (.ref a)) (hA : Z.arrayAt? a = some c) (j : Int32) (hj : ¬ j < 0) (eu : u.eval args Z none [] Z = some (.ref b)) (h : (Cond.eq (.elem t (.int j)) u).value args Z none Z [] = some true) : c.slots[j.toNatClampNeg]? = some (.ref b) := by
  rw [← elem_f (idx := []) (first := Z) (o := none) ev (Term.int_eval j) hA hj]; exact Cond.eq_refs (beq_iff_eq.mpr h : (Cond.eq (.elem t (.int j)) u).holds args Z none Z [] = true) eu rfl
theorem own_str {Z : State} {args : Array Value} {t : Term} {w : Addr} {cs : List Int32} {n : Int32} (hfit : Fit Z) (ev : t.eval args Z none [] Z = some (.ref w)) (hx : (Cond.exactly t "java/lang/String").value args Z none Z [] = some true)
    (hc : (Cond.eq (.field t "java/lang/String" "coder" "B") (.int 0)).value args Z none Z [] = some true) (ha : (Cond.arrayOf (.field t "java/lang/String" "value" "[B") .byte).value args Z none Z [] = some true)
    (hl : (Cond.eq (.length (.field t "java/lang/String" "value" "[B")) (.int n)).value args Z none Z [] = some true) (hn : n = Int32.ofNat cs.length) (h0 : ¬ n < 0) (h1 : n.toNatClampNeg = ((cs.map fun c => c.toInt8.toInt32).map Value.int).length)
    (H : ∀ a c, (Term.field t "java/lang/String" "value" "[B").eval args Z none [] Z = some (.ref a) → Z.arrayAt? a = some c → HasL c 0 ((cs.map fun c => c.toInt8.toInt32).map Value.int)) (hr : ∀ c ∈ cs, ¬ c < 0 ∧ ¬ (255 : Int32) < c) (h2 : cs.length ≤ 4000) :
    ∃ b kb, Str Z Z.heap w b kb cs := by
  subst hn
  obtain ⟨b, eb⟩ := arr_v ha
  obtain ⟨c, A, hA, q, e⟩ := own_arr eb ha hl
  refine ⟨b, c.cls, Exa.start ev hx, Fld.start ((fld_at ev).symm.trans (eqv_i (Term.int_eval 0) hc)), Fld.start ((fld_at ev).symm.trans eb), Arv.start hfit A q e h0 h1 (H b c eb hA), hr, h2⟩
theorem own_orf {args : Array Value} {Z : State} {a b : Jvm.Cond} {idx : List Nat} (h : (Cond.or a b).value args Z none Z idx = some true) (h2 : a.value args Z none Z idx = some false) : b.value args Z none Z idx = some true := by
  simp only [Cond.value, h2] at h; exact h
theorem own_ten1 : ∀ (args : Array Value) (Z : State) (j : Nat), j < 10 → (Cond.le (.int 10) (.index 0)).value args Z none Z [j] = some false
  | _, _, 0, _ => rfl | _, _, 1, _ => rfl | _, _, 2, _ => rfl | _, _, 3, _ => rfl | _, _, 4, _ => rfl | _, _, 5, _ => rfl | _, _, 6, _ => rfl | _, _, 7, _ => rfl | _, _, 8, _ => rfl | _, _, 9, _ => rfl
  | _, _, j + 10, h => absurd h (by omega)
theorem own_ten2 : ∀ (args : Array Value) (Z : State) (j : Nat), ¬ j < 10 → j < 16 → (Cond.lt (.index 0) (.int 10)).value args Z none Z [j] = some false
  | _, _, 10, _, _ => rfl | _, _, 11, _, _ => rfl | _, _, 12, _, _ => rfl | _, _, 13, _, _ => rfl | _, _, 14, _, _ => rfl | _, _, 15, _, _ => rfl
  | _, _, j + 16, _, h => absurd h (by omega)
  | _, _, 0, h, _ => absurd (by decide) h | _, _, 1, h, _ => absurd (by decide) h | _, _, 2, h, _ => absurd (by decide) h | _, _, 3, h, _ => absurd (by decide) h | _, _, 4, h, _ => absurd (by decide) h | _, _, 5, h, _ => absurd (by decide) h | _, _, 6, h, _ => absurd (by decide) h | _, _, 7, h, _ => absurd (by decide) h | _, _, 8, h, _ => absurd (by decide) h | _, _, 9, h, _ => absurd (by decide) h
theorem own_dj1 : ∀ j, j < 10 → ((Int32.ofNat j).toInt64 + 48).toInt32 = own_dg j := by decide +kernel
theorem own_dj2 : ∀ j, j < 16 → ¬ j < 10 → ((Int32.ofNat j).toInt64 + 87).toInt32 = own_dg j := by decide +kernel
theorem own_dig {Z : State} {args : Array Value} {t : Term} {da : Addr} {dc : Cell} (hfit : Fit Z) (A : Arr Z Z.heap da dc .byte) (hA : Z.arrayAt? da = some dc) (ld : dc.slots.size < 2 ^ 31) (zd : dc.slots.size.toInt32 = 16) (et : ∀ idx, t.eval args Z none idx Z = some (.ref da))
    (q4 : (Cond.all t (.or (.le (.int 10) (.index 0)) (.eq (.op1 .i2l (.elem t (.index 0))) (.op2 .ladd (.op1 .i2l (.index 0)) (.long 48))))).value args Z none Z [] = some true)
    (q5 : (Cond.all t (.or (.lt (.index 0) (.int 10)) (.eq (.op1 .i2l (.elem t (.index 0))) (.op2 .ladd (.op1 .i2l (.index 0)) (.long 87))))).value args Z none Z [] = some true) :
    Arv Z Z.heap da dc.cls .byte (16 : Int32) ((List.range 16).map fun k => Value.int (own_dg k)) (.int 0) := by
  have sz : dc.slots.size = 16 := by
    have e : dc.slots.size = (16 : Int32).toNatClampNeg := by rw [← zd]; simp only [Int32.toNatClampNeg, len_toInt ld]; rfl
    exact e
  have key : ∀ j, j < 16 → dc.slots[j]? = some (.int (own_dg j)) := fun j hj => by
    have nn : ¬ (Int32.ofNat j) < 0 := own_pos j (by omega)
    have cj := own_clamp j (by omega)
    obtain ⟨w, ew, fw⟩ := elem_fit hfit A (j := Int32.ofNat j) (fun q => q.elim nn (fun r => by rw [cj, sz] at r; omega))
    rw [cj] at ew
    obtain ⟨b, rfl⟩ : ∃ b, w = .int b := by cases w <;> first | exact ⟨_, rfl⟩ | (simp [fits] at fw)
    have el : (Term.elem t (.index 0)).eval args Z none [j] Z = some (.int b) := (elem_f (et [j]) (Term.index_eval j : (Term.index 0).eval args Z none [j] Z = some (.int (Int32.ofNat j))) hA nn).trans (by rw [cj]; exact ew)
    by_cases h10 : j < 10
    · have h3 := own_orf (Cond.all_elim (et []) hA q4 j (by omega)) (own_ten1 args Z j h10)
      have e := eqv_l (F := .op2 .ladd (.op1 .i2l (.index 0)) (.long 48)) (y := (Int32.ofNat j).toInt64 + 48) rfl h3
      rw [i2l_at el] at e
      have e2 := Value.long.inj (Option.some.inj e)
      rw [ew, ← own_dj1 j h10, ← e2, Int32.toInt32_toInt64]
    · have h3 := own_orf (Cond.all_elim (et []) hA q5 j (by omega)) (own_ten2 args Z j h10 hj)
      have e := eqv_l (F := .op2 .ladd (.op1 .i2l (.index 0)) (.long 87)) (y := (Int32.ofNat j).toInt64 + 87) rfl h3
      rw [i2l_at el] at e
      have e2 := Value.long.inj (Option.some.inj e)
      rw [ew, ← own_dj2 j hj h10, ← e2, Int32.toInt32_toInt64]
  exact Arv.start hfit A ld zd (by decide) rfl ⟨key 0 (by decide), key 1 (by decide), key 2 (by decide), key 3 (by decide), key 4 (by decide), key 5 (by decide), key 6 (by decide), key 7 (by decide), key 8 (by decide), key 9 (by decide), key 10 (by decide), key 11 (by decide), key 12 (by decide), key 13 (by decide), key 14 (by decide), key 15 (by decide), trivial⟩
set_option maxRecDepth 65536 in
set_option maxHeartbeats 40000000 in
theorem rm_lat (l : Launch) (Z : State) (a0 : Array Value) (hw : ∀ d ∈ tables_1, d.before a0 Z = true) (sa ba : Addr) (kb : ClassId) (cs : List Int32) (z : Int32) (h0 : Heap) (n0 : Nat) (B : own_B Z h0 sa ba kb cs) (St : Sta Z Z.heap "java/lang/String" "COMPACT_STRINGS" "Z" (.int z)) (hz : ¬ z = 0) (O0 : Old Z n0 h0) :
    Ct l Z (⟨"java/lang/AbstractStringBuilder", "isLatin1", "()Z"⟩ : MethodName) jdk_68_method_68_code 1 (some .boolean) [] ({ frames := 0, cells := 0, slots := 0, locals := 0 } : Room) #[.ref sa] h0 n0 (fun v h => v = some (.int 1) ∧ h0 = h) := by
  refine Ct.of (L0 := #[.val (.ref sa)]) (plainFor_of_name pn_java_lang_AbstractStringBuilder) (fun m => by first | (simp [entryFrame, mkF, argsToLocals, Value.category]; done) | rfl) ?_
  intro p e s m below meth c C hnm
  refine Go.getS C d19_0 (hw _ (List.mem_of_getElem? (i := 47) rfl)) Via.refl (St.ext O0.2) (pc' := 3) rfl ?_
  refine Go.if_eq_f C d19_3 hz (pc' := 6) rfl ?_
  refine Go.aloadN C d19_6 rfl rfl (pc' := 7) rfl ?_
  refine Go.getF C d19_7 (hw _ (List.mem_of_getElem? (i := 50) rfl)) Via.refl B.2.2.1 (pc' := 10) rfl ?_
  refine Go.if_ne_f C d19_10 rfl (pc' := 13) rfl ?_
  refine Go.iconst C d19_13 (v := 1) rfl (pc' := 14) rfl ?_
  refine Go.goto C d19_14 (by decide) (pc' := 18) (by decide) ?_
  refine Go.retN C (by simp) d19_18 (by decide) (by decide) ?_
  exact ⟨rfl, rfl⟩
set_option maxRecDepth 65536 in
set_option maxHeartbeats 40000000 in
theorem rm_can (l : Launch) (Z : State) (a0 : Array Value) (hw : ∀ d ∈ tables_1, d.before a0 Z = true) (p1 : Int32) (h0 : Heap) (n0 : Nat) (hp : ¬ 255 < p1) :
    Ct l Z (⟨"java/lang/StringLatin1", "canEncode", "(C)Z"⟩ : MethodName) jdk_43_method_3_code 1 (some .boolean) [] ({ frames := 0, cells := 0, slots := 0, locals := 0 } : Room) #[.int p1] h0 n0 (fun v h => v = some (.int 1) ∧ h0 = h) := by
  refine Ct.of (L0 := #[.val (.int p1)]) (plainFor_of_name pn_java_lang_StringLatin1) (fun m => by first | (simp [entryFrame, mkF, argsToLocals, Value.category]; done) | rfl) ?_
  intro p e s m below meth c C hnm
  refine Go.iloadN C d20_0 rfl (pc' := 1) rfl ?_
  refine Go.sipush C d20_1 (v := 255) rfl (pc' := 4) rfl ?_
  refine Go.icmp_gt_f C d20_4 hp (pc' := 7) rfl ?_
  refine Go.iconst C d20_7 (v := 1) rfl (pc' := 8) rfl ?_
  refine Go.goto C d20_8 (by decide) (pc' := 12) (by decide) ?_
  refine Go.retN C (by simp) d20_12 (by decide) (by decide) ?_
  exact ⟨rfl, rfl⟩
set_option maxRecDepth 65536 in
set_option maxHeartbeats 40000000 in
theorem rm_ens (l : Launch) (Z : State) (a0 : Array Value) (hw : ∀ d ∈ tables_1, d.before a0 Z = true) (sa ba : Addr) (kb : ClassId) (cs : List Int32) (k : Nat) (h0 : Heap) (n0 : Nat) (B : own_B Z h0 sa ba kb cs) (hk : k < 21) :
    Ct l Z (⟨"java/lang/AbstractStringBuilder", "ensureCapacityInternal", "(I)V"⟩ : MethodName) jdk_68_method_9_code 3 none [] ({ frames := 0, cells := 0, slots := 0, locals := 0 } : Room) #[.ref sa, .int (Int32.ofNat k)] h0 n0 (fun v h => v = none ∧ h0 = h) := by
  refine Ct.of (L0 := #[.val (.ref sa), .val (.int (Int32.ofNat k)), .unset]) (plainFor_of_name pn_java_lang_AbstractStringBuilder) (fun m => by first | (simp [entryFrame, mkF, argsToLocals, Value.category]; done) | rfl) ?_
  intro p e s m below meth c C hnm
  refine Go.aloadN C d18_0 rfl rfl (pc' := 1) rfl ?_
  refine Go.getF C d18_1 (hw _ (List.mem_of_getElem? (i := 48) rfl)) Via.refl B.2.1 (pc' := 4) rfl ?_
  refine Go.arraylengthV C d18_4 B.2.2.2.2.1 (pc' := 5) rfl ?_
  refine Go.aloadN C d18_5 rfl rfl (pc' := 6) rfl ?_
  refine Go.getF C d18_6 (hw _ (List.mem_of_getElem? (i := 50) rfl)) Via.refl B.2.2.1 (pc' := 9) rfl ?_
  refine Go.ishr C d18_9 (pc' := 10) rfl ?_
  refine Go.istoreN C d18_10 (L' := #[.val (.ref sa), .val (.int (Int32.ofNat k)), .val (.int ((20 : Int32) >>> ((0 : Int32) &&& 31)))]) rfl (pc' := 11) rfl ?_
  refine Go.iloadN C d18_11 rfl (pc' := 12) rfl ?_
  refine Go.iloadN C d18_12 rfl (pc' := 13) rfl ?_
  refine Go.isub C d18_13 (pc' := 14) rfl ?_
  refine Go.if_le_t C d18_14 (own_cap k hk) (by decide) (pc' := 38) (by decide) ?_
  refine Go.retV C d18_38 (by decide) (by decide) ?_
  exact ⟨rfl, rfl⟩
set_option maxRecDepth 65536 in
set_option maxHeartbeats 40000000 in
theorem rm_apa (l : Launch) (Z : State) (a0 : Array Value) (hw : ∀ d ∈ tables_1, d.before a0 Z = true) (sa ba : Addr) (kb : ClassId) (cs : List Int32) (ch z : Int32) (h0 : Heap) (n0 : Nat) (B : own_B Z h0 sa ba kb cs) (hc : ¬ ch < 0 ∧ ¬ (255 : Int32) < ch) (hl : cs.length < 20) (na : n0 ≤ sa) (nb : n0 ≤ ba) (St : Sta Z Z.heap "java/lang/String" "COMPACT_STRINGS" "Z" (.int z)) (hz : ¬ z = 0) (O0 : Old Z n0 h0) :
    Ct l Z (⟨"java/lang/AbstractStringBuilder", "append", "(C)Ljava/lang/AbstractStringBuilder;"⟩ : MethodName) jdk_68_method_31_code 2 (some (.object "java/lang/AbstractStringBuilder")) [] ({ frames := 1, cells := 0, slots := 0, locals := 14 } : Room) #[.ref sa, .int ch] h0 n0 (fun v h => v = some (.ref sa) ∧ Keep h0 h [sa, ba] ∧ own_B Z h sa ba kb (cs ++ [ch])) := by
  refine Ct.of (L0 := #[.val (.ref sa), .val (.int ch)]) (plainFor_of_name pn_java_lang_AbstractStringBuilder) (fun m => by first | (simp [entryFrame, mkF, argsToLocals, Value.category]; done) | rfl) ?_
  intro p e s m below meth c C hnm
  refine Go.aloadN C d17_0 rfl rfl (pc' := 1) rfl ?_
  refine Go.aloadN C d17_1 rfl rfl (pc' := 2) rfl ?_
  refine Go.getF C d17_2 (hw _ (List.mem_of_getElem? (i := 102) rfl)) Via.refl B.2.2.2.1 (pc' := 5) rfl ?_
  refine Go.iconst C d17_5 (v := 1) rfl (pc' := 6) rfl ?_
  refine Go.iadd C d17_6 (pc' := 7) rfl ?_
  rw [own_inc]
  show Go p l e ({ frames := 1, cells := 0, slots := 0, locals := 14 } : Room) s m #[.ref sa, .int ch] below meth c Z "java/lang/AbstractStringBuilder" n0 (Bn s) (EnN s ({ frames := 1, cells := 0, slots := 0, locals := 14 } : Room) n0 (fun v h => v = some (.ref sa) ∧ Keep h0 h [sa, ba] ∧ own_B Z h sa ba kb (cs ++ [ch]))) _ _ _ 7 #[.val (.ref sa), .val (.int ch)] [(.int (Int32.ofNat (cs.length + 1))), (.ref sa)]
  refine Go.callV C d17_7 (hw _ (List.mem_of_getElem? (i := 104) rfl)) (declOf (hw _ (List.mem_of_getElem? (i := 105) rfl)) (hw _ (List.mem_of_getElem? (i := 108) rfl))) (hw _ (List.mem_of_getElem? (i := 107) rfl)) (hw _ (List.mem_of_getElem? (i := 105) rfl)) (fun st hZ => notFace_of_selects (args := #[]) (mvT hZ (hw _ (List.mem_of_getElem? (i := 107) rfl)))) (by decide) B.1 (argsL := [(.int (Int32.ofNat (cs.length + 1)))]) (rest := []) rfl (lenOf pd__I_V rfl) rfl (W := 0) (Nat.le_of_ble_eq_true rfl) (Ct.pay (rm_ens l Z a0 hw sa ba kb cs (cs.length + 1) h0 n0 B (Nat.succ_lt_succ hl)) (hw _ (List.mem_of_getElem? (i := 108) rfl)) (hw _ (List.mem_of_getElem? (i := 44) rfl)) (by decide) (by decide)) (fun _ _ _ q => q.2) (by decide) (by decide) (fun _ _ _ _ _ q => q) (pc' := 10) rfl ?_
  rintro _ _ L1 ⟨⟨rfl, rfl⟩, -⟩
  show Go p l e ({ frames := 1, cells := 0, slots := 0, locals := 14 } : Room) s m #[.ref sa, .int ch] below meth c Z "java/lang/AbstractStringBuilder" n0 (Bn s) (EnN s ({ frames := 1, cells := 0, slots := 0, locals := 14 } : Room) n0 (fun v h => v = some (.ref sa) ∧ Keep h0 h [sa, ba] ∧ own_B Z h sa ba kb (cs ++ [ch]))) _ _ _ 10 #[.val (.ref sa), .val (.int ch)] []
  refine Go.aloadN C d17_10 rfl rfl (pc' := 11) rfl ?_
  refine Go.callV C d17_11 (hw _ (List.mem_of_getElem? (i := 109) rfl)) (hw _ (List.mem_of_getElem? (i := 110) rfl)) (hw _ (List.mem_of_getElem? (i := 112) rfl)) (hw _ (List.mem_of_getElem? (i := 111) rfl)) (fun st hZ => notFace_of_selects (args := #[]) (mvT hZ (hw _ (List.mem_of_getElem? (i := 112) rfl)))) (by decide) B.1 (argsL := []) (rest := []) rfl (lenOf pd___Z rfl) rfl (W := 0) (Nat.le_of_ble_eq_true rfl) (Ct.pay (rm_lat l Z a0 hw sa ba kb cs z h0 n0 B St hz O0) (hw _ (List.mem_of_getElem? (i := 113) rfl)) (hw _ (List.mem_of_getElem? (i := 44) rfl)) (by decide) (by decide)) (fun _ _ _ q => q.2) (by decide) (by decide) (fun _ _ _ _ _ q => q) (pc' := 14) rfl ?_
  rintro _ _ L2 ⟨⟨rfl, rfl⟩, -⟩
  show Go p l e ({ frames := 1, cells := 0, slots := 0, locals := 14 } : Room) s m #[.ref sa, .int ch] below meth c Z "java/lang/AbstractStringBuilder" n0 (Bn s) (EnN s ({ frames := 1, cells := 0, slots := 0, locals := 14 } : Room) n0 (fun v h => v = some (.ref sa) ∧ Keep h0 h [sa, ba] ∧ own_B Z h sa ba kb (cs ++ [ch]))) _ _ _ 14 #[.val (.ref sa), .val (.int ch)] [(.int (1 : Int32))]
  refine Go.if_eq_f C d17_14 (by decide) (pc' := 17) rfl ?_
  refine Go.iloadN C d17_17 rfl (pc' := 18) rfl ?_
  refine Go.callS C d17_18 (hw _ (List.mem_of_getElem? (i := 114) rfl)) (hw _ (List.mem_of_getElem? (i := 115) rfl)) (hw _ (List.mem_of_getElem? (i := 116) rfl)) (hw _ (List.mem_of_getElem? (i := 117) rfl)) (by decide) (argsL := [(.int ch)]) (rest := []) rfl (lenOf pd__C_Z rfl) rfl (W := 0) (Nat.le_of_ble_eq_true rfl) (Ct.pay (rm_can l Z a0 hw ch h0 n0 hc.2) (hw _ (List.mem_of_getElem? (i := 117) rfl)) (hw _ (List.mem_of_getElem? (i := 116) rfl)) (by decide) (by decide)) (fun _ _ _ q => q.2) (by decide) (by decide) (fun _ _ _ _ _ q => q) (pc' := 21) rfl ?_
  rintro _ _ L3 ⟨⟨rfl, rfl⟩, -⟩
  show Go p l e ({ frames := 1, cells := 0, slots := 0, locals := 14 } : Room) s m #[.ref sa, .int ch] below meth c Z "java/lang/AbstractStringBuilder" n0 (Bn s) (EnN s ({ frames := 1, cells := 0, slots := 0, locals := 14 } : Room) n0 (fun v h => v = some (.ref sa) ∧ Keep h0 h [sa, ba] ∧ own_B Z h sa ba kb (cs ++ [ch]))) _ _ _ 21 #[.val (.ref sa), .val (.int ch)] [(.int (1 : Int32))]
  refine Go.if_eq_f C d17_21 (by decide) (pc' := 24) rfl ?_
  refine Go.aloadN C d17_24 rfl rfl (pc' := 25) rfl ?_
  refine Go.getF C d17_25 (hw _ (List.mem_of_getElem? (i := 48) rfl)) Via.refl B.2.1 (pc' := 28) rfl ?_
  refine Go.aloadN C d17_28 rfl rfl (pc' := 29) rfl ?_
  refine Go.dup C d17_29 rfl (pc' := 30) rfl ?_
  refine Go.getF C d17_30 (hw _ (List.mem_of_getElem? (i := 102) rfl)) Via.refl B.2.2.2.1 (pc' := 33) rfl ?_
  refine Go.dupX1 C d17_33 rfl rfl (pc' := 34) rfl ?_
  refine Go.iconst C d17_34 (v := 1) rfl (pc' := 35) rfl ?_
  refine Go.iadd C d17_35 (pc' := 36) rfl ?_
  rw [own_inc]
  show Go p l e ({ frames := 1, cells := 0, slots := 0, locals := 14 } : Room) s m #[.ref sa, .int ch] below meth c Z "java/lang/AbstractStringBuilder" n0 (Bn s) (EnN s ({ frames := 1, cells := 0, slots := 0, locals := 14 } : Room) n0 (fun v h => v = some (.ref sa) ∧ Keep h0 h [sa, ba] ∧ own_B Z h sa ba kb (cs ++ [ch]))) _ _ _ 36 #[.val (.ref sa), .val (.int ch)] [(.int (Int32.ofNat (cs.length + 1))), (.ref sa), (.int (Int32.ofNat cs.length)), (.ref ba)]
  refine Go.putF C d17_36 (hw _ (List.mem_of_getElem? (i := 102) rfl)) Via.refl B.2.2.2.1 B.1 (Or.inl (hw _ (List.mem_of_getElem? (i := 103) rfl))) (hw _ (List.mem_of_getElem? (i := 35) rfl)) (ty := .int) (by decide) rfl rfl na (fun _ _ _ q => q) (pc' := 39) rfl ?_
  intro h1 W1
  have V1 := B.2.2.2.2.1.other W1 B.2.2.2.2.2.2.symm
  refine Go.iloadN C d17_39 rfl (pc' := 40) rfl ?_
  refine Go.i2b C d17_40 (pc' := 41) rfl ?_
  refine Go.bastoreV C d17_41 V1 (own_pos _ (by omega)) (own_lt20 _ hl) cs.length (own_clamp _ (by omega)) (by rw [own_pad_len cs (Nat.le_of_lt hl)]; exact hl) nb (fun _ _ _ q => q) (pc' := 42) rfl ?_
  intro h2 W2 V2
  rw [own_b8, own_pad_set cs ch hl] at V2
  refine Go.goto C d17_42 (by decide) (pc' := 75) (by decide) ?_
  refine Go.aloadN C d17_75 rfl rfl (pc' := 76) rfl ?_
  refine Go.retA C rfl d17_76 rfl (by decide) (by decide) ?_
  have n1 := B.2.2.2.2.2.2
  refine ⟨rfl, ((Keep.refl _ _).wr W1 (Or.inl (by simp))).wr W2 (Or.inl (by simp)), (B.1.wr W1).wr W2, (B.2.1.other W1 (Or.inr (slot_ne (C := "java/lang/StringBuilder") (Or.inl (hw _ (List.mem_of_getElem? (i := 49) rfl))) (Or.inl (hw _ (List.mem_of_getElem? (i := 103) rfl))) (by decide) (t := (.array .byte)) (t' := .int) (by decide) (by decide)))).other W2 (Or.inl n1), (B.2.2.1.other W1 (Or.inr (slot_ne (C := "java/lang/StringBuilder") (Or.inl (hw _ (List.mem_of_getElem? (i := 51) rfl))) (Or.inl (hw _ (List.mem_of_getElem? (i := 103) rfl))) (by decide) (t := .byte) (t' := .int) (by decide) (by decide)))).other W2 (Or.inl n1), ?_, V2, (B.2.2.2.2.2.1.wr W1).wr W2, n1⟩
  have F3 := (B.2.2.2.1.same W1).other W2 (Or.inl n1)
  rw [show (cs ++ [ch]).length = cs.length + 1 by simp]; exact F3
set_option maxRecDepth 65536 in
set_option maxHeartbeats 40000000 in
theorem rm_aps (l : Launch) (Z : State) (a0 : Array Value) (hw : ∀ d ∈ tables_1, d.before a0 Z = true) (sa ba : Addr) (kb : ClassId) (cs : List Int32) (ch z : Int32) (h0 : Heap) (n0 : Nat) (B : own_B Z h0 sa ba kb cs) (hc : ¬ ch < 0 ∧ ¬ (255 : Int32) < ch) (hl : cs.length < 20) (na : n0 ≤ sa) (nb : n0 ≤ ba) (St : Sta Z Z.heap "java/lang/String" "COMPACT_STRINGS" "Z" (.int z)) (hz : ¬ z = 0) (O0 : Old Z n0 h0) :
    Ct l Z (⟨"java/lang/StringBuilder", "append", "(C)Ljava/lang/StringBuilder;"⟩ : MethodName) jdk_67_method_14_code 2 (some (.object "java/lang/StringBuilder")) [] ({ frames := 2, cells := 0, slots := 0, locals := 27 } : Room) #[.ref sa, .int ch] h0 n0 (fun v h => v = some (.ref sa) ∧ Keep h0 h [sa, ba] ∧ own_B Z h sa ba kb (cs ++ [ch])) := by
  refine Ct.of (L0 := #[.val (.ref sa), .val (.int ch)]) (plainFor_of_name pn_java_lang_StringBuilder) (fun m => by first | (simp [entryFrame, mkF, argsToLocals, Value.category]; done) | rfl) ?_
  intro p e s m below meth c C hnm
  refine Go.aloadN C d16_0 rfl rfl (pc' := 1) rfl ?_
  refine Go.iloadN C d16_1 rfl (pc' := 2) rfl ?_
  refine Go.callU C d16_2 (hw _ (List.mem_of_getElem? (i := 97) rfl)) (sameOf (hw _ (List.mem_of_getElem? (i := 100) rfl)) ((fun st hZ => nfSame (y := ({ cls := "java/lang/AbstractStringBuilder", name := "append", desc := "(C)Ljava/lang/AbstractStringBuilder;" } : Jvm.MethodName)) (y' := ({ cls := "java/lang/AbstractStringBuilder", name := "isLatin1", desc := "()Z" } : Jvm.MethodName)) rfl (mvT (args := #[]) hZ (hw _ (List.mem_of_getElem? (i := 110) rfl))) (notFace_of_selects (args := #[]) (mvT hZ (hw _ (List.mem_of_getElem? (i := 112) rfl))))) Z (State.Warmed39.refl Z)) (by decide)) (hw _ (List.mem_of_getElem? (i := 98) rfl)) (hw _ (List.mem_of_getElem? (i := 99) rfl)) (by decide) (hw _ (List.mem_of_getElem? (i := 101) rfl)) (Ins.self B.1) (argsL := [(.int ch)]) (rest := []) rfl (lenOf pd__C_Ljava_lang_AbstractStringBuilder_ rfl) rfl (W := 0) (Nat.le_of_ble_eq_true rfl) (Ct.pay (rm_apa l Z a0 hw sa ba kb cs ch z h0 n0 B hc hl na nb St hz O0) (hw _ (List.mem_of_getElem? (i := 101) rfl)) (hw _ (List.mem_of_getElem? (i := 44) rfl)) (by decide) (by decide)) (fun _ _ _ q => q.2) (by decide) (by decide) (fun _ _ _ _ _ q => q) (pc' := 5) rfl ?_
  rintro _ h1 L1 ⟨⟨rfl, K1, B1⟩, -⟩
  show Go p l e ({ frames := 2, cells := 0, slots := 0, locals := 27 } : Room) s m #[.ref sa, .int ch] below meth c Z "java/lang/StringBuilder" n0 (Bn s) (EnN s ({ frames := 2, cells := 0, slots := 0, locals := 27 } : Room) n0 (fun v h => v = some (.ref sa) ∧ Keep h0 h [sa, ba] ∧ own_B Z h sa ba kb (cs ++ [ch]))) _ _ _ 5 #[.val (.ref sa), .val (.int ch)] [(.ref sa)]
  refine Go.pop C d16_5 rfl (pc' := 6) rfl ?_
  refine Go.aloadN C d16_6 rfl rfl (pc' := 7) rfl ?_
  refine Go.retA C rfl d16_7 rfl (by decide) (by decide) ?_
  exact ⟨rfl, K1, B1⟩
set_option maxRecDepth 65536 in
set_option maxHeartbeats 40000000 in
theorem rm_ap (l : Launch) (Z : State) (a0 : Array Value) (hw : ∀ d ∈ tables_1, d.before a0 Z = true) (sa ba : Addr) (kb : ClassId) (cs : List Int32) (ch z : Int32) (h0 : Heap) (n0 : Nat) (B : own_B Z h0 sa ba kb cs) (hc : ¬ ch < 0 ∧ ¬ (255 : Int32) < ch) (hl : cs.length < 20) (na : n0 ≤ sa) (nb : n0 ≤ ba) (St : Sta Z Z.heap "java/lang/String" "COMPACT_STRINGS" "Z" (.int z)) (hz : ¬ z = 0) (O0 : Old Z n0 h0) :
    Ct l Z (⟨"java/lang/StringBuilder", "append", "(C)Ljava/lang/Appendable;"⟩ : MethodName) jdk_67_method_94_code 2 (some (.object "java/lang/Appendable")) [] ({ frames := 3, cells := 0, slots := 0, locals := 40 } : Room) #[.ref sa, .int ch] h0 n0 (fun v h => v = some (.ref sa) ∧ Keep h0 h [sa, ba] ∧ own_B Z h sa ba kb (cs ++ [ch])) := by
  refine Ct.of (L0 := #[.val (.ref sa), .val (.int ch)]) (plainFor_of_name pn_java_lang_StringBuilder) (fun m => by first | (simp [entryFrame, mkF, argsToLocals, Value.category]; done) | rfl) ?_
  intro p e s m below meth c C hnm
  refine Go.aloadN C d15_0 rfl rfl (pc' := 1) rfl ?_
  refine Go.iloadN C d15_1 rfl (pc' := 2) rfl ?_
  refine Go.callV C d15_2 (hw _ (List.mem_of_getElem? (i := 92) rfl)) (hw _ (List.mem_of_getElem? (i := 93) rfl)) (hw _ (List.mem_of_getElem? (i := 95) rfl)) (hw _ (List.mem_of_getElem? (i := 94) rfl)) (fun st hZ => notFace_of_selects (args := #[]) (mvT hZ (hw _ (List.mem_of_getElem? (i := 95) rfl)))) (by decide) B.1 (argsL := [(.int ch)]) (rest := []) rfl (lenOf pd__C_Ljava_lang_StringBuilder_ rfl) rfl (W := 0) (Nat.le_of_ble_eq_true rfl) (Ct.pay (rm_aps l Z a0 hw sa ba kb cs ch z h0 n0 B hc hl na nb St hz O0) (hw _ (List.mem_of_getElem? (i := 96) rfl)) (hw _ (List.mem_of_getElem? (i := 36) rfl)) (by decide) (by decide)) (fun _ _ _ q => q.2) (by decide) (by decide) (fun _ _ _ _ _ q => q) (pc' := 5) rfl ?_
  rintro _ h1 L1 ⟨⟨rfl, K1, B1⟩, -⟩
  show Go p l e ({ frames := 3, cells := 0, slots := 0, locals := 40 } : Room) s m #[.ref sa, .int ch] below meth c Z "java/lang/StringBuilder" n0 (Bn s) (EnN s ({ frames := 3, cells := 0, slots := 0, locals := 40 } : Room) n0 (fun v h => v = some (.ref sa) ∧ Keep h0 h [sa, ba] ∧ own_B Z h sa ba kb (cs ++ [ch]))) _ _ _ 5 #[.val (.ref sa), .val (.int ch)] [(.ref sa)]
  refine Go.retA C rfl d15_5 rfl (by decide) (by decide) ?_
  exact ⟨rfl, K1, B1⟩
set_option maxRecDepth 65536 in
set_option maxHeartbeats 40000000 in
theorem rm_High (l : Launch) (Z : State) (a0 : Array Value) (hw : ∀ d ∈ tables_1, d.before a0 Z = true) (T : own_T) (q : Nat) (h0 : Heap) (n0 : Nat) (hq : q < 256) (H : own_H Z T) (O0 : Old Z n0 h0) :
    Ct l Z (⟨"java/util/HexFormat", "toHighHexDigit", "(I)C"⟩ : MethodName) jdk_2580_method_25_code 2 (some .char) [] ({ frames := 0, cells := 0, slots := 0, locals := 0 } : Room) #[.ref T.1, .int (own_sb q)] h0 n0 (fun v h => v = some (.int (own_dg (q / 16))) ∧ h0 = h) := by
  refine Ct.of (L0 := #[.val (.ref T.1), .val (.int (own_sb q))]) (plainFor_of_name pn_java_util_HexFormat) (fun m => by first | (simp [entryFrame, mkF, argsToLocals, Value.category]; done) | rfl) ?_
  intro p e s m below meth c C hnm
  have hf : (q / 16) < 16 := by omega
  refine Go.aloadN C d14_0 rfl rfl (pc' := 1) rfl ?_
  refine Go.getF C d14_1 (hw _ (List.mem_of_getElem? (i := 81) rfl)) Via.refl (H.2.2.1.ext O0.2) (pc' := 4) rfl ?_
  refine Go.iloadN C d14_4 rfl (pc' := 5) rfl ?_
  refine Go.iconst C d14_5 (v := 4) rfl (pc' := 6) rfl ?_
  refine Go.ishr C d14_6 (pc' := 7) rfl ?_
  refine Go.bipush C d14_7 (v := 15) rfl (pc' := 9) rfl ?_
  refine Go.iand C d14_9 (pc' := 10) rfl ?_
  rw [own_hi q hq]
  show Go p l e _ s m _ below meth c Z _ n0 _ _ _ _ _ 10 #[.val (.ref T.1), .val (.int (own_sb q))] [(.int (Int32.ofNat (q / 16))), (.ref T.2.1)]
  refine Go.baloadV C d14_10 (H.2.2.2.ext O0.2) (own_pos _ (by omega)) (own_lt16 _ hf) (own_tab _ hf) (pc' := 11) rfl ?_
  refine Go.i2c C d14_11 (pc' := 12) rfl ?_
  rw [own_dgc _ hf]
  refine Go.retN C (by simp) d14_12 (by decide) (by decide) ?_
  exact ⟨by rw [own_dgn _ hf], rfl⟩
set_option maxRecDepth 65536 in
set_option maxHeartbeats 40000000 in
theorem rm_Low (l : Launch) (Z : State) (a0 : Array Value) (hw : ∀ d ∈ tables_1, d.before a0 Z = true) (T : own_T) (q : Nat) (h0 : Heap) (n0 : Nat) (hq : q < 256) (H : own_H Z T) (O0 : Old Z n0 h0) :
    Ct l Z (⟨"java/util/HexFormat", "toLowHexDigit", "(I)C"⟩ : MethodName) jdk_2580_method_24_code 2 (some .char) [] ({ frames := 0, cells := 0, slots := 0, locals := 0 } : Room) #[.ref T.1, .int (own_sb q)] h0 n0 (fun v h => v = some (.int (own_dg (q % 16))) ∧ h0 = h) := by
  refine Ct.of (L0 := #[.val (.ref T.1), .val (.int (own_sb q))]) (plainFor_of_name pn_java_util_HexFormat) (fun m => by first | (simp [entryFrame, mkF, argsToLocals, Value.category]; done) | rfl) ?_
  intro p e s m below meth c C hnm
  have hf : (q % 16) < 16 := by omega
  refine Go.aloadN C d21_0 rfl rfl (pc' := 1) rfl ?_
  refine Go.getF C d21_1 (hw _ (List.mem_of_getElem? (i := 81) rfl)) Via.refl (H.2.2.1.ext O0.2) (pc' := 4) rfl ?_
  refine Go.iloadN C d21_4 rfl (pc' := 5) rfl ?_
  refine Go.bipush C d21_5 (v := 15) rfl (pc' := 7) rfl ?_
  refine Go.iand C d21_7 (pc' := 8) rfl ?_
  rw [own_lo q hq]
  show Go p l e _ s m _ below meth c Z _ n0 _ _ _ _ _ 8 #[.val (.ref T.1), .val (.int (own_sb q))] [(.int (Int32.ofNat (q % 16))), (.ref T.2.1)]
  refine Go.baloadV C d21_8 (H.2.2.2.ext O0.2) (own_pos _ (by omega)) (own_lt16 _ hf) (own_tab _ hf) (pc' := 9) rfl ?_
  refine Go.i2c C d21_9 (pc' := 10) rfl ?_
  rw [own_dgc _ hf]
  refine Go.retN C (by simp) d21_10 (by decide) (by decide) ?_
  exact ⟨by rw [own_dgn _ hf], rfl⟩
set_option maxRecDepth 65536 in
set_option maxHeartbeats 40000000 in
theorem rm_rnn (l : Launch) (Z : State) (a0 : Array Value) (hw : ∀ d ∈ tables_1, d.before a0 Z = true) (a1 a2 : Addr) (h0 : Heap) (n0 : Nat)  :
    Ct l Z (⟨"java/util/Objects", "requireNonNull", "(Ljava/lang/Object;Ljava/lang/String;)Ljava/lang/Object;"⟩ : MethodName) jdk_31_method_11_code 2 (some (.object "java/lang/Object")) [] ({ frames := 0, cells := 0, slots := 0, locals := 0 } : Room) #[.ref a1, .ref a2] h0 n0 (fun v h => v = some (.ref a1) ∧ h0 = h) := by
  refine Ct.of (L0 := #[.val (.ref a1), .val (.ref a2)]) (plainFor_of_name pn_java_util_Objects) (fun m => by first | (simp [entryFrame, mkF, argsToLocals, Value.category]; done) | rfl) ?_
  intro p e s m below meth c C hnm
  refine Go.aloadN C d13_0 rfl rfl (pc' := 1) rfl ?_
  refine Go.ifnonnull_t C d13_1 (by decide) (pc' := 13) (by decide) ?_
  refine Go.aloadN C d13_13 rfl rfl (pc' := 14) rfl ?_
  refine Go.retA C rfl d13_14 rfl (by decide) (by decide) ?_
  exact ⟨rfl, rfl⟩
set_option maxRecDepth 65536 in
set_option maxHeartbeats 40000000 in
theorem rm_hex1 (l : Launch) (Z : State) (a0 : Array Value) (hw : ∀ d ∈ tables_1, d.before a0 Z = true) (T : own_T) (sa ba : Addr) (kb : ClassId) (cs : List Int32) (q : Nat) (z : Int32) (h0 : Heap) (n0 : Nat) (B : own_B Z h0 sa ba kb cs) (hq : q < 256) (hl : cs.length + 2 ≤ 20) (na : n0 ≤ sa) (nb : n0 ≤ ba) (H : own_H Z T) (St : Sta Z Z.heap "java/lang/String" "COMPACT_STRINGS" "Z" (.int z)) (hz : ¬ z = 0) (O0 : Old Z n0 h0) :
    CtPH l Z [] [] TV (LV Z "java/util/HexFormat" 90) (⟨"java/util/HexFormat", "toHexDigits", "(Ljava/lang/Appendable;B)Ljava/lang/Appendable;"⟩ : MethodName) jdk_2580_method_26_code 4 (some (.object "java/lang/Appendable")) [((7 : Nat), (32 : Nat), (33 : Nat), (110 : Nat))] [] ({ frames := 4, cells := 2, slots := 16, locals := 53 } : Room) #[.ref T.1, .ref sa, .int (own_sb q)] h0 n0 (fun v h => v = some (.ref sa) ∧ Keep h0 h [sa, ba] ∧ own_B Z h sa ba kb (cs ++ own_cs [q])) := by
  refine CtPH.of (L0 := #[.val (.ref T.1), .val (.ref sa), .val (.int (own_sb q)), .unset]) (plainFor_of_name pn_java_util_HexFormat) (fun m => by first | (simp [entryFrame, mkF, argsToLocals, Value.category]; done) | rfl) ?_
  intro p e s m below meth c C hnm hP1
  have hEL : EW Z a0 [] := EW.nil
  have own_sa := own_sat (Z := Z) (a0 := a0) hw
  refine Go.aloadN C d12_0 rfl rfl (pc' := 1) rfl ?_
  refine Go.ldcOX C d12_1 (hw _ (List.mem_of_getElem? (i := 69) rfl)) own_sa hEL (n := 12) (by decide) (by decide) (by decide) (by decide) (pc' := 3) rfl ?_
  intro h1 la E1
  show Go p l e ({ frames := 4, cells := 2, slots := 16, locals := 53 } : Room) s m #[.ref T.1, .ref sa, .int (own_sb q)] below meth c Z "java/util/HexFormat" n0 _ (EnP s ({ frames := 4, cells := 2, slots := 16, locals := 53 } : Room) n0 Z [] (LV Z "java/util/HexFormat" 90) (fun v h => v = some (.ref sa) ∧ Keep h0 h [sa, ba] ∧ own_B Z h sa ba kb (cs ++ own_cs [q]))) _ _ _ 3 #[.val (.ref T.1), .val (.ref sa), .val (.int (own_sb q)), .unset] [(.ref la), (.ref sa)]
  have B1 := B.ext E1
  have O1 := O0.ext E1
  have h16 : q / 16 < 16 ∧ q % 16 < 16 := by omega
  refine Go.callS C d12_3 (hw _ (List.mem_of_getElem? (i := 72) rfl)) (hw _ (List.mem_of_getElem? (i := 73) rfl)) (hw _ (List.mem_of_getElem? (i := 74) rfl)) (hw _ (List.mem_of_getElem? (i := 75) rfl)) (by decide) (argsL := [(.ref sa), (.ref la)]) (rest := []) rfl (lenOf pd__Ljava_lang_Object_Ljava_lang_String__Ljava_lang_Object_ rfl) rfl (W := 0) (Nat.le_of_ble_eq_true rfl) (Ct.pay (rm_rnn l Z a0 hw sa la h1 n0) (hw _ (List.mem_of_getElem? (i := 75) rfl)) (hw _ (List.mem_of_getElem? (i := 74) rfl)) (by decide) (by decide)) (fun _ _ _ q => q.2) (by decide) (by decide) (fun _ _ _ _ q b => by obtain ⟨⟨_, rfl⟩, _⟩ := q; exact b) (pc' := 6) rfl ?_
  rintro _ _ L1 ⟨⟨rfl, rfl⟩, -⟩
  show Go p l e ({ frames := 4, cells := 2, slots := 16, locals := 53 } : Room) s m #[.ref T.1, .ref sa, .int (own_sb q)] below meth c Z "java/util/HexFormat" n0 _ (EnP s ({ frames := 4, cells := 2, slots := 16, locals := 53 } : Room) n0 Z [] (LV Z "java/util/HexFormat" 90) (fun v h => v = some (.ref sa) ∧ Keep h0 h [sa, ba] ∧ own_B Z h sa ba kb (cs ++ own_cs [q]))) _ _ _ 6 #[.val (.ref T.1), .val (.ref sa), .val (.int (own_sb q)), .unset] [(.ref sa)]
  refine Go.pop C d12_6 rfl (pc' := 7) rfl ?_
  refine Go.aloadN C d12_7 rfl rfl (pc' := 8) rfl ?_
  refine Go.aloadN C d12_8 rfl rfl (pc' := 9) rfl ?_
  refine Go.iloadN C d12_9 rfl (pc' := 10) rfl ?_
  refine Go.callV C d12_10 (hw _ (List.mem_of_getElem? (i := 76) rfl)) (hw _ (List.mem_of_getElem? (i := 77) rfl)) (hw _ (List.mem_of_getElem? (i := 79) rfl)) (hw _ (List.mem_of_getElem? (i := 78) rfl)) (fun st hZ => notFace_of_selects (args := #[]) (mvT hZ (hw _ (List.mem_of_getElem? (i := 79) rfl)))) (by decide) (H.2.1.ext O1.2) (argsL := [(.int (own_sb q))]) (rest := [(.ref sa)]) rfl (lenOf pd__I_C rfl) rfl (W := 1) (Nat.le_of_ble_eq_true rfl) (Ct.pay (rm_High l Z a0 hw T q h1 n0 hq H O1) (hw _ (List.mem_of_getElem? (i := 80) rfl)) (hw _ (List.mem_of_getElem? (i := 67) rfl)) (by decide) (by decide)) (fun _ _ _ q => q.2) (by decide) (by decide) (fun _ _ _ _ q b => by obtain ⟨⟨_, rfl⟩, _⟩ := q; exact b) (pc' := 13) rfl ?_
  rintro _ _ L2 ⟨⟨rfl, rfl⟩, -⟩
  show Go p l e ({ frames := 4, cells := 2, slots := 16, locals := 53 } : Room) s m #[.ref T.1, .ref sa, .int (own_sb q)] below meth c Z "java/util/HexFormat" n0 _ (EnP s ({ frames := 4, cells := 2, slots := 16, locals := 53 } : Room) n0 Z [] (LV Z "java/util/HexFormat" 90) (fun v h => v = some (.ref sa) ∧ Keep h0 h [sa, ba] ∧ own_B Z h sa ba kb (cs ++ own_cs [q]))) _ _ _ 13 #[.val (.ref T.1), .val (.ref sa), .val (.int (own_sb q)), .unset] [(.int (own_dg (q / 16))), (.ref sa)]
  refine Go.callI C d12_13 (hw _ (List.mem_of_getElem? (i := 83) rfl)) (hw _ (List.mem_of_getElem? (i := 84) rfl)) (hw _ (List.mem_of_getElem? (i := 85) rfl)) (hw _ (List.mem_of_getElem? (i := 86) rfl)) (hw _ (List.mem_of_getElem? (i := 87) rfl)) (hw _ (List.mem_of_getElem? (i := 88) rfl)) (hw _ (List.mem_of_getElem? (i := 89) rfl)) (hw _ (List.mem_of_getElem? (i := 90) rfl)) (by decide) B1.1 (argsL := [(.int (own_dg (q / 16)))]) (rest := []) rfl (lenOf pd__C_Ljava_lang_Appendable_ rfl) rfl (W := 0) (Nat.le_of_ble_eq_true rfl) (Ct.pay (rm_ap l Z a0 hw sa ba kb cs (own_dg (q / 16)) z h1 n0 B1 (own_dgr _ h16.1) (by omega) na nb St hz O1) (hw _ (List.mem_of_getElem? (i := 91) rfl)) (hw _ (List.mem_of_getElem? (i := 36) rfl)) (by decide) (by decide)) (fun _ _ _ q => q.2) (by decide) (by decide) (fun _ _ _ _ q b => by obtain ⟨⟨_, K, _⟩, _⟩ := q; exact BwX.any K b) (pc' := 18) rfl ?_
  rintro _ h2 L3 ⟨⟨rfl, K2, B2⟩, -⟩
  show Go p l e ({ frames := 4, cells := 2, slots := 16, locals := 53 } : Room) s m #[.ref T.1, .ref sa, .int (own_sb q)] below meth c Z "java/util/HexFormat" n0 _ (EnP s ({ frames := 4, cells := 2, slots := 16, locals := 53 } : Room) n0 Z [] (LV Z "java/util/HexFormat" 90) (fun v h => v = some (.ref sa) ∧ Keep h0 h [sa, ba] ∧ own_B Z h sa ba kb (cs ++ own_cs [q]))) _ _ _ 18 #[.val (.ref T.1), .val (.ref sa), .val (.int (own_sb q)), .unset] [(.ref sa)]
  have O2 := O1.keep K2 (allS na (allS nb all0))
  refine Go.pop C d12_18 rfl (pc' := 19) rfl ?_
  refine Go.aloadN C d12_19 rfl rfl (pc' := 20) rfl ?_
  refine Go.aloadN C d12_20 rfl rfl (pc' := 21) rfl ?_
  refine Go.iloadN C d12_21 rfl (pc' := 22) rfl ?_
  refine Go.callV C d12_22 (hw _ (List.mem_of_getElem? (i := 118) rfl)) (hw _ (List.mem_of_getElem? (i := 119) rfl)) (hw _ (List.mem_of_getElem? (i := 121) rfl)) (hw _ (List.mem_of_getElem? (i := 120) rfl)) (fun st hZ => notFace_of_selects (args := #[]) (mvT hZ (hw _ (List.mem_of_getElem? (i := 121) rfl)))) (by decide) (H.2.1.ext O2.2) (argsL := [(.int (own_sb q))]) (rest := [(.ref sa)]) rfl (lenOf pd__I_C rfl) rfl (W := 1) (Nat.le_of_ble_eq_true rfl) (Ct.pay (rm_Low l Z a0 hw T q h2 n0 hq H O2) (hw _ (List.mem_of_getElem? (i := 122) rfl)) (hw _ (List.mem_of_getElem? (i := 67) rfl)) (by decide) (by decide)) (fun _ _ _ q => q.2) (by decide) (by decide) (fun _ _ _ _ q b => by obtain ⟨⟨_, rfl⟩, _⟩ := q; exact b) (pc' := 25) rfl ?_
  rintro _ _ L4 ⟨⟨rfl, rfl⟩, -⟩
  show Go p l e ({ frames := 4, cells := 2, slots := 16, locals := 53 } : Room) s m #[.ref T.1, .ref sa, .int (own_sb q)] below meth c Z "java/util/HexFormat" n0 _ (EnP s ({ frames := 4, cells := 2, slots := 16, locals := 53 } : Room) n0 Z [] (LV Z "java/util/HexFormat" 90) (fun v h => v = some (.ref sa) ∧ Keep h0 h [sa, ba] ∧ own_B Z h sa ba kb (cs ++ own_cs [q]))) _ _ _ 25 #[.val (.ref T.1), .val (.ref sa), .val (.int (own_sb q)), .unset] [(.int (own_dg (q % 16))), (.ref sa)]
  refine Go.callI C d12_25 (hw _ (List.mem_of_getElem? (i := 83) rfl)) (hw _ (List.mem_of_getElem? (i := 84) rfl)) (hw _ (List.mem_of_getElem? (i := 85) rfl)) (hw _ (List.mem_of_getElem? (i := 86) rfl)) (hw _ (List.mem_of_getElem? (i := 87) rfl)) (hw _ (List.mem_of_getElem? (i := 88) rfl)) (hw _ (List.mem_of_getElem? (i := 89) rfl)) (hw _ (List.mem_of_getElem? (i := 90) rfl)) (by decide) B2.1 (argsL := [(.int (own_dg (q % 16)))]) (rest := []) rfl (lenOf pd__C_Ljava_lang_Appendable_ rfl) rfl (W := 0) (Nat.le_of_ble_eq_true rfl) (Ct.pay (rm_ap l Z a0 hw sa ba kb (cs ++ [own_dg (q / 16)]) (own_dg (q % 16)) z h2 n0 B2 (own_dgr _ h16.2) (by simp; omega) na nb St hz O2) (hw _ (List.mem_of_getElem? (i := 91) rfl)) (hw _ (List.mem_of_getElem? (i := 36) rfl)) (by decide) (by decide)) (fun _ _ _ q => q.2) (by decide) (by decide) (fun _ _ _ _ q b => by obtain ⟨⟨_, K, _⟩, _⟩ := q; exact BwX.any K b) (pc' := 30) rfl ?_
  rintro _ h3 L5 ⟨⟨rfl, K3, B3⟩, -⟩
  show Go p l e ({ frames := 4, cells := 2, slots := 16, locals := 53 } : Room) s m #[.ref T.1, .ref sa, .int (own_sb q)] below meth c Z "java/util/HexFormat" n0 _ (EnP s ({ frames := 4, cells := 2, slots := 16, locals := 53 } : Room) n0 Z [] (LV Z "java/util/HexFormat" 90) (fun v h => v = some (.ref sa) ∧ Keep h0 h [sa, ba] ∧ own_B Z h sa ba kb (cs ++ own_cs [q]))) _ _ _ 30 #[.val (.ref T.1), .val (.ref sa), .val (.int (own_sb q)), .unset] [(.ref sa)]
  refine Go.pop C d12_30 rfl (pc' := 31) rfl ?_
  refine Go.aloadN C d12_31 rfl rfl (pc' := 32) rfl ?_
  refine Go.retAWX C hEL rfl d12_32 rfl (by decide) (by decide) ?_
  exact ⟨rfl, (((Keep.refl _ _).ext E1).trans K2 (fun x hx => Or.inl hx)).trans K3 (fun x hx => Or.inl hx), by rw [own_cs_one]; simpa using B3⟩
set_option maxRecDepth 65536 in
set_option maxHeartbeats 40000000 in
theorem rm_hex2 (l : Launch) (Z : State) (a0 : Array Value) (hw : ∀ d ∈ tables_1, d.before a0 Z = true) (T : own_T) (sa ba : Addr) (kb : ClassId) (cs : List Int32) (q : Nat) (z : Int32) (h0 : Heap) (n0 : Nat) (B : own_B Z h0 sa ba kb cs) (hq : q < 256) (hl : cs.length + 2 ≤ 20) (na : n0 ≤ sa) (nb : n0 ≤ ba) (H : own_H Z T) (St : Sta Z Z.heap "java/lang/String" "COMPACT_STRINGS" "Z" (.int z)) (hz : ¬ z = 0) (O0 : Old Z n0 h0) :
    CtPH l Z [] [] (LV Z "java/util/HexFormat" 90) TV (⟨"java/util/HexFormat", "toHexDigits", "(Ljava/lang/Appendable;B)Ljava/lang/Appendable;"⟩ : MethodName) jdk_2580_method_26_code 4 (some (.object "java/lang/Appendable")) [((7 : Nat), (32 : Nat), (33 : Nat), (110 : Nat))] [] ({ frames := 4, cells := 0, slots := 0, locals := 53 } : Room) #[.ref T.1, .ref sa, .int (own_sb q)] h0 n0 (fun v h => v = some (.ref sa) ∧ Keep h0 h [sa, ba] ∧ own_B Z h sa ba kb (cs ++ own_cs [q])) := by
  refine CtPH.of (L0 := #[.val (.ref T.1), .val (.ref sa), .val (.int (own_sb q)), .unset]) (plainFor_of_name pn_java_util_HexFormat) (fun m => by first | (simp [entryFrame, mkF, argsToLocals, Value.category]; done) | rfl) ?_
  intro p e s m below meth c C hnm hP1
  have hEL : EW Z a0 [] := EW.nil
  have own_sa := own_sat (Z := Z) (a0 := a0) hw
  refine Go.baseX hP1 ?_
  refine Go.aloadN C d12_0 rfl rfl (pc' := 1) rfl ?_
  refine Go.ldcAg C d12_1 (hw _ (List.mem_of_getElem? (i := 69) rfl)) (fun _ _ q => q.2) (pc' := 3) rfl ?_
  intro la
  have E1 : Ext h0 h0 := ⟨Nat.le_refl _, fun _ _ q => q⟩
  show Go p l e ({ frames := 4, cells := 0, slots := 0, locals := 53 } : Room) s m #[.ref T.1, .ref sa, .int (own_sb q)] below meth c Z "java/util/HexFormat" n0 _ (EnP s ({ frames := 4, cells := 0, slots := 0, locals := 53 } : Room) n0 Z [] TV (fun v h => v = some (.ref sa) ∧ Keep h0 h [sa, ba] ∧ own_B Z h sa ba kb (cs ++ own_cs [q]))) _ _ _ 3 #[.val (.ref T.1), .val (.ref sa), .val (.int (own_sb q)), .unset] [(.ref la), (.ref sa)]
  have B1 := B.ext E1
  have O1 := O0.ext E1
  have h16 : q / 16 < 16 ∧ q % 16 < 16 := by omega
  refine Go.callS C d12_3 (hw _ (List.mem_of_getElem? (i := 72) rfl)) (hw _ (List.mem_of_getElem? (i := 73) rfl)) (hw _ (List.mem_of_getElem? (i := 74) rfl)) (hw _ (List.mem_of_getElem? (i := 75) rfl)) (by decide) (argsL := [(.ref sa), (.ref la)]) (rest := []) rfl (lenOf pd__Ljava_lang_Object_Ljava_lang_String__Ljava_lang_Object_ rfl) rfl (W := 0) (Nat.le_of_ble_eq_true rfl) (Ct.pay (rm_rnn l Z a0 hw sa la h0 n0) (hw _ (List.mem_of_getElem? (i := 75) rfl)) (hw _ (List.mem_of_getElem? (i := 74) rfl)) (by decide) (by decide)) (fun _ _ _ q => q.2) (by decide) (by decide) (fun _ _ _ _ q b => by obtain ⟨⟨_, rfl⟩, _⟩ := q; exact b) (pc' := 6) rfl ?_
  rintro _ _ L1 ⟨⟨rfl, rfl⟩, -⟩
  show Go p l e ({ frames := 4, cells := 0, slots := 0, locals := 53 } : Room) s m #[.ref T.1, .ref sa, .int (own_sb q)] below meth c Z "java/util/HexFormat" n0 _ (EnP s ({ frames := 4, cells := 0, slots := 0, locals := 53 } : Room) n0 Z [] TV (fun v h => v = some (.ref sa) ∧ Keep h0 h [sa, ba] ∧ own_B Z h sa ba kb (cs ++ own_cs [q]))) _ _ _ 6 #[.val (.ref T.1), .val (.ref sa), .val (.int (own_sb q)), .unset] [(.ref sa)]
  refine Go.pop C d12_6 rfl (pc' := 7) rfl ?_
  refine Go.aloadN C d12_7 rfl rfl (pc' := 8) rfl ?_
  refine Go.aloadN C d12_8 rfl rfl (pc' := 9) rfl ?_
  refine Go.iloadN C d12_9 rfl (pc' := 10) rfl ?_
  refine Go.callV C d12_10 (hw _ (List.mem_of_getElem? (i := 76) rfl)) (hw _ (List.mem_of_getElem? (i := 77) rfl)) (hw _ (List.mem_of_getElem? (i := 79) rfl)) (hw _ (List.mem_of_getElem? (i := 78) rfl)) (fun st hZ => notFace_of_selects (args := #[]) (mvT hZ (hw _ (List.mem_of_getElem? (i := 79) rfl)))) (by decide) (H.2.1.ext O1.2) (argsL := [(.int (own_sb q))]) (rest := [(.ref sa)]) rfl (lenOf pd__I_C rfl) rfl (W := 1) (Nat.le_of_ble_eq_true rfl) (Ct.pay (rm_High l Z a0 hw T q h0 n0 hq H O1) (hw _ (List.mem_of_getElem? (i := 80) rfl)) (hw _ (List.mem_of_getElem? (i := 67) rfl)) (by decide) (by decide)) (fun _ _ _ q => q.2) (by decide) (by decide) (fun _ _ _ _ q b => by obtain ⟨⟨_, rfl⟩, _⟩ := q; exact b) (pc' := 13) rfl ?_
  rintro _ _ L2 ⟨⟨rfl, rfl⟩, -⟩
  show Go p l e ({ frames := 4, cells := 0, slots := 0, locals := 53 } : Room) s m #[.ref T.1, .ref sa, .int (own_sb q)] below meth c Z "java/util/HexFormat" n0 _ (EnP s ({ frames := 4, cells := 0, slots := 0, locals := 53 } : Room) n0 Z [] TV (fun v h => v = some (.ref sa) ∧ Keep h0 h [sa, ba] ∧ own_B Z h sa ba kb (cs ++ own_cs [q]))) _ _ _ 13 #[.val (.ref T.1), .val (.ref sa), .val (.int (own_sb q)), .unset] [(.int (own_dg (q / 16))), (.ref sa)]
  refine Go.callI C d12_13 (hw _ (List.mem_of_getElem? (i := 83) rfl)) (hw _ (List.mem_of_getElem? (i := 84) rfl)) (hw _ (List.mem_of_getElem? (i := 85) rfl)) (hw _ (List.mem_of_getElem? (i := 86) rfl)) (hw _ (List.mem_of_getElem? (i := 87) rfl)) (hw _ (List.mem_of_getElem? (i := 88) rfl)) (hw _ (List.mem_of_getElem? (i := 89) rfl)) (hw _ (List.mem_of_getElem? (i := 90) rfl)) (by decide) B1.1 (argsL := [(.int (own_dg (q / 16)))]) (rest := []) rfl (lenOf pd__C_Ljava_lang_Appendable_ rfl) rfl (W := 0) (Nat.le_of_ble_eq_true rfl) (Ct.pay (rm_ap l Z a0 hw sa ba kb cs (own_dg (q / 16)) z h0 n0 B1 (own_dgr _ h16.1) (by omega) na nb St hz O1) (hw _ (List.mem_of_getElem? (i := 91) rfl)) (hw _ (List.mem_of_getElem? (i := 36) rfl)) (by decide) (by decide)) (fun _ _ _ q => q.2) (by decide) (by decide) (fun _ _ _ _ q b => by obtain ⟨⟨_, K, _⟩, _⟩ := q; exact BwX.any K b) (pc' := 18) rfl ?_
  rintro _ h2 L3 ⟨⟨rfl, K2, B2⟩, -⟩
  show Go p l e ({ frames := 4, cells := 0, slots := 0, locals := 53 } : Room) s m #[.ref T.1, .ref sa, .int (own_sb q)] below meth c Z "java/util/HexFormat" n0 _ (EnP s ({ frames := 4, cells := 0, slots := 0, locals := 53 } : Room) n0 Z [] TV (fun v h => v = some (.ref sa) ∧ Keep h0 h [sa, ba] ∧ own_B Z h sa ba kb (cs ++ own_cs [q]))) _ _ _ 18 #[.val (.ref T.1), .val (.ref sa), .val (.int (own_sb q)), .unset] [(.ref sa)]
  have O2 := O1.keep K2 (allS na (allS nb all0))
  refine Go.pop C d12_18 rfl (pc' := 19) rfl ?_
  refine Go.aloadN C d12_19 rfl rfl (pc' := 20) rfl ?_
  refine Go.aloadN C d12_20 rfl rfl (pc' := 21) rfl ?_
  refine Go.iloadN C d12_21 rfl (pc' := 22) rfl ?_
  refine Go.callV C d12_22 (hw _ (List.mem_of_getElem? (i := 118) rfl)) (hw _ (List.mem_of_getElem? (i := 119) rfl)) (hw _ (List.mem_of_getElem? (i := 121) rfl)) (hw _ (List.mem_of_getElem? (i := 120) rfl)) (fun st hZ => notFace_of_selects (args := #[]) (mvT hZ (hw _ (List.mem_of_getElem? (i := 121) rfl)))) (by decide) (H.2.1.ext O2.2) (argsL := [(.int (own_sb q))]) (rest := [(.ref sa)]) rfl (lenOf pd__I_C rfl) rfl (W := 1) (Nat.le_of_ble_eq_true rfl) (Ct.pay (rm_Low l Z a0 hw T q h2 n0 hq H O2) (hw _ (List.mem_of_getElem? (i := 122) rfl)) (hw _ (List.mem_of_getElem? (i := 67) rfl)) (by decide) (by decide)) (fun _ _ _ q => q.2) (by decide) (by decide) (fun _ _ _ _ q b => by obtain ⟨⟨_, rfl⟩, _⟩ := q; exact b) (pc' := 25) rfl ?_
  rintro _ _ L4 ⟨⟨rfl, rfl⟩, -⟩
  show Go p l e ({ frames := 4, cells := 0, slots := 0, locals := 53 } : Room) s m #[.ref T.1, .ref sa, .int (own_sb q)] below meth c Z "java/util/HexFormat" n0 _ (EnP s ({ frames := 4, cells := 0, slots := 0, locals := 53 } : Room) n0 Z [] TV (fun v h => v = some (.ref sa) ∧ Keep h0 h [sa, ba] ∧ own_B Z h sa ba kb (cs ++ own_cs [q]))) _ _ _ 25 #[.val (.ref T.1), .val (.ref sa), .val (.int (own_sb q)), .unset] [(.int (own_dg (q % 16))), (.ref sa)]
  refine Go.callI C d12_25 (hw _ (List.mem_of_getElem? (i := 83) rfl)) (hw _ (List.mem_of_getElem? (i := 84) rfl)) (hw _ (List.mem_of_getElem? (i := 85) rfl)) (hw _ (List.mem_of_getElem? (i := 86) rfl)) (hw _ (List.mem_of_getElem? (i := 87) rfl)) (hw _ (List.mem_of_getElem? (i := 88) rfl)) (hw _ (List.mem_of_getElem? (i := 89) rfl)) (hw _ (List.mem_of_getElem? (i := 90) rfl)) (by decide) B2.1 (argsL := [(.int (own_dg (q % 16)))]) (rest := []) rfl (lenOf pd__C_Ljava_lang_Appendable_ rfl) rfl (W := 0) (Nat.le_of_ble_eq_true rfl) (Ct.pay (rm_ap l Z a0 hw sa ba kb (cs ++ [own_dg (q / 16)]) (own_dg (q % 16)) z h2 n0 B2 (own_dgr _ h16.2) (by simp; omega) na nb St hz O2) (hw _ (List.mem_of_getElem? (i := 91) rfl)) (hw _ (List.mem_of_getElem? (i := 36) rfl)) (by decide) (by decide)) (fun _ _ _ q => q.2) (by decide) (by decide) (fun _ _ _ _ q b => by obtain ⟨⟨_, K, _⟩, _⟩ := q; exact BwX.any K b) (pc' := 30) rfl ?_
  rintro _ h3 L5 ⟨⟨rfl, K3, B3⟩, -⟩
  show Go p l e ({ frames := 4, cells := 0, slots := 0, locals := 53 } : Room) s m #[.ref T.1, .ref sa, .int (own_sb q)] below meth c Z "java/util/HexFormat" n0 _ (EnP s ({ frames := 4, cells := 0, slots := 0, locals := 53 } : Room) n0 Z [] TV (fun v h => v = some (.ref sa) ∧ Keep h0 h [sa, ba] ∧ own_B Z h sa ba kb (cs ++ own_cs [q]))) _ _ _ 30 #[.val (.ref T.1), .val (.ref sa), .val (.int (own_sb q)), .unset] [(.ref sa)]
  refine Go.pop C d12_30 rfl (pc' := 31) rfl ?_
  refine Go.aloadN C d12_31 rfl rfl (pc' := 32) rfl ?_
  refine Go.endX (Go.retAW C hEL rfl d12_32 rfl (by decide) (by decide) ?_)
  exact ⟨rfl, (((Keep.refl _ _).ext E1).trans K2 (fun x hx => Or.inl hx)).trans K3 (fun x hx => Or.inl hx), by rw [own_cs_one]; simpa using B3⟩
set_option maxRecDepth 65536 in
set_option maxHeartbeats 40000000 in
theorem rm_in1 (l : Launch) (Z : State) (a0 : Array Value) (hw : ∀ d ∈ tables_1, d.before a0 Z = true) (sa : Addr) (v0 c0 : Value) (z : Int32) (h0 : Heap) (n0 : Nat) (na : n0 ≤ sa) (Z0 : n0 ≤ h0.size) (E : Exa Z h0 sa "java/lang/StringBuilder") (F1 : Fld Z h0 sa "java/lang/AbstractStringBuilder" "value" "[B" v0) (F2 : Fld Z h0 sa "java/lang/AbstractStringBuilder" "coder" "B" c0) (F3 : Fld Z h0 sa "java/lang/AbstractStringBuilder" "count" "I" (.int 0)) (St : Sta Z Z.heap "java/lang/String" "COMPACT_STRINGS" "Z" (.int z)) (hz : ¬ z = 0) (O0 : Old Z n0 h0) :
    Ct l Z (⟨"java/lang/AbstractStringBuilder", "<init>", "(I)V"⟩ : MethodName) jdk_68_method_2_code 2 none [] ({ frames := 1, cells := 1, slots := 20, locals := 12 } : Room) #[.ref sa, .int 20] h0 n0 (fun v h => v = none ∧ ∃ ba kb, h0.size ≤ ba ∧ Keep h0 h [sa] ∧ own_B Z h sa ba kb []) := by
  refine Ct.of (L0 := #[.val (.ref sa), .val (.int (20 : Int32))]) (plainFor_of_name pn_java_lang_AbstractStringBuilder) (fun m => by first | (simp [entryFrame, mkF, argsToLocals, Value.category]; done) | rfl) ?_
  intro p e s m below meth c C hnm
  refine Go.aloadN C d9_0 rfl rfl (pc' := 1) rfl ?_
  refine Go.initO C d9_1 (hw _ (List.mem_of_getElem? (i := 46) rfl)) (hw _ (List.mem_of_getElem? (i := 12) rfl)) (hw _ (List.mem_of_getElem? (i := 13) rfl)) rfl (by decide) (by decide) (pc' := 4) rfl ?_
  refine Go.getS C d9_4 (hw _ (List.mem_of_getElem? (i := 47) rfl)) Via.refl (St.ext O0.2) (pc' := 7) rfl ?_
  refine Go.if_eq_f C d9_7 hz (pc' := 10) rfl ?_
  refine Go.aloadN C d9_10 rfl rfl (pc' := 11) rfl ?_
  refine Go.iloadN C d9_11 rfl (pc' := 12) rfl ?_
  refine Go.newPVE C bnE d9_12 (hw _ (List.mem_of_getElem? (i := 19) rfl)) (by decide) (cap := 20) (by decide) (by decide) (by decide) (by decide) (pc' := 14) rfl (dv := .int 0) rfl (ad := "[B") (by decide) ?_
  intro h1 kb E1 V1 A1
  show Go p l e _ s m _ below meth c Z _ n0 _ _ _ _ _ 14 #[.val (.ref sa), .val (.int (20 : Int32))] [(.ref h0.size), (.ref sa)]
  have hne : sa ≠ h0.size := Nat.ne_of_lt E.lt
  refine Go.putF C d9_14 (hw _ (List.mem_of_getElem? (i := 48) rfl)) Via.refl (F1.ext E1) (E.ext E1) (Or.inl (hw _ (List.mem_of_getElem? (i := 49) rfl))) (hw _ (List.mem_of_getElem? (i := 35) rfl)) (ty := (.array .byte)) (by decide) rfl rfl na (fun _ _ _ q => q) (pc' := 17) rfl ?_
  intro h2 W2
  refine Go.aloadN C d9_17 rfl rfl (pc' := 18) rfl ?_
  refine Go.iconst C d9_18 (v := 0) rfl (pc' := 19) rfl ?_
  refine Go.putF C d9_19 (hw _ (List.mem_of_getElem? (i := 50) rfl)) Via.refl ((F2.ext E1).other W2 (Or.inr (slot_ne (C := "java/lang/StringBuilder") (Or.inl (hw _ (List.mem_of_getElem? (i := 51) rfl))) (Or.inl (hw _ (List.mem_of_getElem? (i := 49) rfl))) (by decide) (t := .byte) (t' := (.array .byte)) (by decide) (by decide)))) ((E.ext E1).wr W2) (Or.inl (hw _ (List.mem_of_getElem? (i := 51) rfl))) (hw _ (List.mem_of_getElem? (i := 35) rfl)) (ty := .byte) (by decide) rfl rfl na (fun _ _ _ q => q) (pc' := 22) rfl ?_
  intro h3 W3
  refine Go.goto C d9_22 (by decide) (pc' := 38) (by decide) ?_
  refine Go.retV C d9_38 (by decide) (by decide) ?_
  refine ⟨rfl, h0.size, kb, Nat.le_refl _, (((Keep.refl _ _).ext E1).wr W2 (Or.inl (by simp))).wr W3 (Or.inl (by simp)), ((E.ext E1).wr W2).wr W3, ((F1.ext E1).same W2).other W3 (Or.inr (slot_ne (C := "java/lang/StringBuilder") (Or.inl (hw _ (List.mem_of_getElem? (i := 49) rfl))) (Or.inl (hw _ (List.mem_of_getElem? (i := 51) rfl))) (by decide) (t := (.array .byte)) (t' := .byte) (by decide) (by decide))), ((F2.ext E1).other W2 (Or.inr (slot_ne (C := "java/lang/StringBuilder") (Or.inl (hw _ (List.mem_of_getElem? (i := 51) rfl))) (Or.inl (hw _ (List.mem_of_getElem? (i := 49) rfl))) (by decide) (t := .byte) (t' := (.array .byte)) (by decide) (by decide)))).same W3, ((F3.ext E1).other W2 (Or.inr (slot_ne (C := "java/lang/StringBuilder") (Or.inl (hw _ (List.mem_of_getElem? (i := 103) rfl))) (Or.inl (hw _ (List.mem_of_getElem? (i := 49) rfl))) (by decide) (t := .int) (t' := (.array .byte)) (by decide) (by decide)))).other W3 (Or.inr (slot_ne (C := "java/lang/StringBuilder") (Or.inl (hw _ (List.mem_of_getElem? (i := 103) rfl))) (Or.inl (hw _ (List.mem_of_getElem? (i := 51) rfl))) (by decide) (t := .int) (t' := .byte) (by decide) (by decide))), ?_, (A1.wr W2).wr W3, hne⟩
  rw [own_pad_0]; exact (V1.other W2 hne.symm).other W3 hne.symm
set_option maxRecDepth 65536 in
set_option maxHeartbeats 40000000 in
theorem rm_in2 (l : Launch) (Z : State) (a0 : Array Value) (hw : ∀ d ∈ tables_1, d.before a0 Z = true) (sa : Addr) (v0 c0 : Value) (z : Int32) (h0 : Heap) (n0 : Nat) (na : n0 ≤ sa) (Z0 : n0 ≤ h0.size) (E : Exa Z h0 sa "java/lang/StringBuilder") (F1 : Fld Z h0 sa "java/lang/AbstractStringBuilder" "value" "[B" v0) (F2 : Fld Z h0 sa "java/lang/AbstractStringBuilder" "coder" "B" c0) (F3 : Fld Z h0 sa "java/lang/AbstractStringBuilder" "count" "I" (.int 0)) (St : Sta Z Z.heap "java/lang/String" "COMPACT_STRINGS" "Z" (.int z)) (hz : ¬ z = 0) (O0 : Old Z n0 h0) :
    Ct l Z (⟨"java/lang/StringBuilder", "<init>", "(I)V"⟩ : MethodName) jdk_67_method_2_code 2 none [] ({ frames := 2, cells := 1, slots := 20, locals := 25 } : Room) #[.ref sa, .int 20] h0 n0 (fun v h => v = none ∧ ∃ ba kb, h0.size ≤ ba ∧ Keep h0 h [sa] ∧ own_B Z h sa ba kb []) := by
  refine Ct.of (L0 := #[.val (.ref sa), .val (.int (20 : Int32))]) (plainFor_of_name pn_java_lang_StringBuilder) (fun m => by first | (simp [entryFrame, mkF, argsToLocals, Value.category]; done) | rfl) ?_
  intro p e s m below meth c C hnm
  refine Go.aloadN C d8_0 rfl rfl (pc' := 1) rfl ?_
  refine Go.iloadN C d8_1 rfl (pc' := 2) rfl ?_
  refine Go.callN C d8_2 rfl (hw _ (List.mem_of_getElem? (i := 40) rfl)) (hw _ (List.mem_of_getElem? (i := 41) rfl)) (hw _ (List.mem_of_getElem? (i := 45) rfl)) (by decide) (argsL := [(.int (20 : Int32))]) (rest := []) rfl (lenOf pd__I_V rfl) rfl (W := 0) (Nat.le_of_ble_eq_true rfl) (Ct.pay (rm_in1 l Z a0 hw sa v0 c0 z h0 n0 na Z0 E F1 F2 F3 St hz O0) (hw _ (List.mem_of_getElem? (i := 45) rfl)) (hw _ (List.mem_of_getElem? (i := 44) rfl)) (by decide) (by decide)) (fun _ _ _ q => q.2) (by decide) (by decide) (fun _ _ _ _ _ q => q) (pc' := 5) rfl ?_
  rintro _ h1 L1 ⟨⟨rfl, q1⟩, -⟩
  show Go p l e _ s m _ below meth c Z _ n0 _ _ _ _ _ 5 #[.val (.ref sa), .val (.int (20 : Int32))] []
  refine Go.retV C d8_5 (by decide) (by decide) ?_
  exact ⟨rfl, q1⟩
set_option maxRecDepth 65536 in
set_option maxHeartbeats 40000000 in
theorem rm_chk (l : Launch) (Z : State) (a0 : Array Value) (hw : ∀ d ∈ tables_1, d.before a0 Z = true) (x1 : Int32) (h0 : Heap) (n0 : Nat) (hx : ¬ x1 < 0) :
    Ct l Z (⟨"java/util/Arrays", "checkLength", "(II)V"⟩ : MethodName) jdk_65_method_131_code 2 none [] ({ frames := 0, cells := 0, slots := 0, locals := 0 } : Room) #[.int 0, .int x1] h0 n0 (fun v h => v = none ∧ h0 = h) := by
  refine Ct.of (L0 := #[.val (.int (0 : Int32)), .val (.int x1)]) (plainFor_of_name pn_java_util_Arrays) (fun m => by first | (simp [entryFrame, mkF, argsToLocals, Value.category]; done) | rfl) ?_
  intro p e s m below meth c C hnm
  refine Go.iloadN C d30_0 rfl (pc' := 1) rfl ?_
  refine Go.iloadN C d30_1 rfl (pc' := 2) rfl ?_
  refine Go.icmp_ge_t C d30_2 hx (by decide) (pc' := 37) (by decide) ?_
  refine Go.retV C d30_37 (by decide) (by decide) ?_
  exact ⟨rfl, rfl⟩
set_option maxRecDepth 65536 in
set_option maxHeartbeats 40000000 in
theorem rm_min (l : Launch) (Z : State) (a0 : Array Value) (hw : ∀ d ∈ tables_1, d.before a0 Z = true) (k : Nat) (h0 : Heap) (n0 : Nat) (hk : k < 21) :
    Ct l Z (⟨"java/lang/Math", "min", "(II)I"⟩ : MethodName) jdk_29_method_69_code 2 (some .int) [] ({ frames := 0, cells := 0, slots := 0, locals := 0 } : Room) #[.int ((20 : Int32) - (0 : Int32)), .int (Int32.ofNat k)] h0 n0 (fun v h => v = some (.int (Int32.ofNat k)) ∧ h0 = h) := by
  refine Ct.of (L0 := #[.val (.int ((20 : Int32) - (0 : Int32))), .val (.int (Int32.ofNat k))]) (Jvm.Free.JP.mathPlain rfl (by decide +kernel)) (fun m => by first | (simp [entryFrame, mkF, argsToLocals, Value.category]; done) | rfl) ?_
  intro p e s m below meth c C hnm
  refine Go.iloadN C d31_0 rfl (pc' := 1) rfl ?_
  refine Go.iloadN C d31_1 rfl (pc' := 2) rfl ?_
  refine Go.icmp_gt C d31_2 (by decide) (pc1 := 9) (by decide) (pc2 := 5) rfl (fun hc => ?_) (fun hc => ?_)
  · refine Go.iloadN C d31_9 rfl (pc' := 10) rfl ?_
    refine Go.retI C d31_10 (by decide) (by decide) ?_
    exact ⟨rfl, rfl⟩
  · refine Go.iloadN C d31_5 rfl (pc' := 6) rfl ?_
    refine Go.goto C d31_6 (by decide) (pc' := 10) (by decide) ?_
    refine Go.retI C d31_10 (by decide) (by decide) ?_
    exact ⟨by rw [(own_min20 k hk).2 hc], rfl⟩
set_option maxRecDepth 65536 in
set_option maxHeartbeats 40000000 in
theorem rm_crb (l : Launch) (Z : State) (a0 : Array Value) (hw : ∀ d ∈ tables_1, d.before a0 Z = true) (ba : Addr) (kb : ClassId) (cs : List Int32) (h0 : Heap) (n0 : Nat) (Z0 : n0 ≤ h0.size) (V : Arv Z h0 ba kb .byte (20 : Int32) (own_pad cs) (.int 0)) (A : Exa Z h0 ba "[B") (hl : cs.length < 21) :
    Ct l Z (⟨"java/util/Arrays", "copyOfRangeByte", "([BII)[B"⟩ : MethodName) jdk_65_method_133_code 5 (some (.array .byte)) [] ({ frames := 1, cells := 1, slots := 20, locals := 18 } : Room) #[.ref ba, .int 0, .int (Int32.ofNat cs.length)] h0 n0 (fun v h => ∃ t kt, v = some (.ref t) ∧ h0.size ≤ t ∧ Keep h0 h [] ∧ Arv Z h t kt .byte (Int32.ofNat cs.length) ((cs.map fun c => c.toInt8.toInt32).map Value.int) (.int 0)) := by
  refine Ct.of (L0 := #[.val (.ref ba), .val (.int (0 : Int32)), .val (.int (Int32.ofNat cs.length)), .unset, .unset]) (plainFor_of_name pn_java_util_Arrays) (fun m => by first | (simp [entryFrame, mkF, argsToLocals, Value.category]; done) | rfl) ?_
  intro p e s m below meth c C hnm
  refine Go.iloadN C d29_0 rfl (pc' := 1) rfl ?_
  refine Go.iloadN C d29_1 rfl (pc' := 2) rfl ?_
  refine Go.callS C d29_2 (hw _ (List.mem_of_getElem? (i := 156) rfl)) (hw _ (List.mem_of_getElem? (i := 157) rfl)) (hw _ (List.mem_of_getElem? (i := 151) rfl)) (hw _ (List.mem_of_getElem? (i := 158) rfl)) (by decide) (argsL := [(.int (0 : Int32)), (.int (Int32.ofNat cs.length))]) (rest := []) rfl (lenOf pd__II_V rfl) rfl (W := 0) (Nat.le_of_ble_eq_true rfl) (Ct.pay (rm_chk l Z a0 hw (Int32.ofNat cs.length) h0 n0 (own_pos _ (by omega))) (hw _ (List.mem_of_getElem? (i := 158) rfl)) (hw _ (List.mem_of_getElem? (i := 151) rfl)) (by decide) (by decide)) (fun _ _ _ q => q.2) (by decide) (by decide) (fun _ _ _ _ _ q => q) (pc' := 5) rfl ?_
  rintro _ _ L1 ⟨⟨rfl, rfl⟩, -⟩
  show Go p l e ({ frames := 1, cells := 1, slots := 20, locals := 18 } : Room) s m #[.ref ba, .int 0, .int (Int32.ofNat cs.length)] below meth c Z "java/util/Arrays" n0 (Bn s) (EnN s ({ frames := 1, cells := 1, slots := 20, locals := 18 } : Room) n0 (fun v h => ∃ t kt, v = some (.ref t) ∧ h0.size ≤ t ∧ Keep h0 h [] ∧ Arv Z h t kt .byte (Int32.ofNat cs.length) ((cs.map fun c => c.toInt8.toInt32).map Value.int) (.int 0))) _ _ _ 5 #[.val (.ref ba), .val (.int (0 : Int32)), .val (.int (Int32.ofNat cs.length)), .unset, .unset] []
  refine Go.iloadN C d29_5 rfl (pc' := 6) rfl ?_
  refine Go.iloadN C d29_6 rfl (pc' := 7) rfl ?_
  refine Go.isub C d29_7 (pc' := 8) rfl ?_
  rw [own_s0']
  show Go p l e ({ frames := 1, cells := 1, slots := 20, locals := 18 } : Room) s m #[.ref ba, .int 0, .int (Int32.ofNat cs.length)] below meth c Z "java/util/Arrays" n0 (Bn s) (EnN s ({ frames := 1, cells := 1, slots := 20, locals := 18 } : Room) n0 (fun v h => ∃ t kt, v = some (.ref t) ∧ h0.size ≤ t ∧ Keep h0 h [] ∧ Arv Z h t kt .byte (Int32.ofNat cs.length) ((cs.map fun c => c.toInt8.toInt32).map Value.int) (.int 0))) _ _ _ 8 #[.val (.ref ba), .val (.int (0 : Int32)), .val (.int (Int32.ofNat cs.length)), .unset, .unset] [(.int (Int32.ofNat cs.length))]
  refine Go.istoreN C d29_8 (L' := #[.val (.ref ba), .val (.int (0 : Int32)), .val (.int (Int32.ofNat cs.length)), .val (.int (Int32.ofNat cs.length)), .unset]) rfl (pc' := 9) rfl ?_
  refine Go.iloadN C d29_9 rfl (pc' := 10) rfl ?_
  refine Go.newPV C bnE d29_10 (hw _ (List.mem_of_getElem? (i := 19) rfl)) (own_pos _ (by omega)) (cap := 20) (by rw [own_clamp _ (by omega)]; omega) (by decide) (by decide) (by decide) (pc' := 12) rfl (dv := .int 0) rfl ?_
  intro h1 kt E1 V1
  show Go p l e ({ frames := 1, cells := 1, slots := 20, locals := 18 } : Room) s m #[.ref ba, .int 0, .int (Int32.ofNat cs.length)] below meth c Z "java/util/Arrays" n0 (Bn s) (EnN s ({ frames := 1, cells := 1, slots := 20, locals := 18 } : Room) n0 (fun v h => ∃ t kt, v = some (.ref t) ∧ h0.size ≤ t ∧ Keep h0 h [] ∧ Arv Z h t kt .byte (Int32.ofNat cs.length) ((cs.map fun c => c.toInt8.toInt32).map Value.int) (.int 0))) _ _ _ 12 #[.val (.ref ba), .val (.int (0 : Int32)), .val (.int (Int32.ofNat cs.length)), .val (.int (Int32.ofNat cs.length)), .unset] [(.ref h0.size)]
  refine Go.astore C d29_12 rfl (L' := #[.val (.ref ba), .val (.int (0 : Int32)), .val (.int (Int32.ofNat cs.length)), .val (.int (Int32.ofNat cs.length)), .val (.ref h0.size)]) rfl (pc' := 14) rfl ?_
  refine Go.aloadN C d29_14 rfl rfl (pc' := 15) rfl ?_
  refine Go.iloadN C d29_15 rfl (pc' := 16) rfl ?_
  refine Go.aload C d29_16 rfl rfl (pc' := 18) rfl ?_
  refine Go.iconst C d29_18 (v := 0) rfl (pc' := 19) rfl ?_
  refine Go.aloadN C d29_19 rfl rfl (pc' := 20) rfl ?_
  refine Go.arraylengthV C d29_20 (V.ext E1) (pc' := 21) rfl ?_
  refine Go.iloadN C d29_21 rfl (pc' := 22) rfl ?_
  refine Go.isub C d29_22 (pc' := 23) rfl ?_
  refine Go.iloadN C d29_23 rfl (pc' := 24) rfl ?_
  refine Go.callS C d29_24 (hw _ (List.mem_of_getElem? (i := 159) rfl)) (hw _ (List.mem_of_getElem? (i := 160) rfl)) (hw _ (List.mem_of_getElem? (i := 161) rfl)) (hw _ (List.mem_of_getElem? (i := 162) rfl)) (by decide) (argsL := [(.int ((20 : Int32) - (0 : Int32))), (.int (Int32.ofNat cs.length))]) (rest := [(.int (0 : Int32)), (.ref h0.size), (.int (0 : Int32)), (.ref ba)]) rfl (lenOf pd__II_I rfl) rfl (W := 4) (Nat.le_of_ble_eq_true rfl) (Ct.pay (rm_min l Z a0 hw cs.length h1 n0 hl) (hw _ (List.mem_of_getElem? (i := 162) rfl)) (hw _ (List.mem_of_getElem? (i := 161) rfl)) (by decide) (by decide)) (fun _ _ _ q => q.2) (by decide) (by decide) (fun _ _ _ _ _ q => q) (pc' := 27) rfl ?_
  rintro _ _ L2 ⟨⟨rfl, rfl⟩, -⟩
  show Go p l e ({ frames := 1, cells := 1, slots := 20, locals := 18 } : Room) s m #[.ref ba, .int 0, .int (Int32.ofNat cs.length)] below meth c Z "java/util/Arrays" n0 (Bn s) (EnN s ({ frames := 1, cells := 1, slots := 20, locals := 18 } : Room) n0 (fun v h => ∃ t kt, v = some (.ref t) ∧ h0.size ≤ t ∧ Keep h0 h [] ∧ Arv Z h t kt .byte (Int32.ofNat cs.length) ((cs.map fun c => c.toInt8.toInt32).map Value.int) (.int 0))) _ _ _ 27 #[.val (.ref ba), .val (.int (0 : Int32)), .val (.int (Int32.ofNat cs.length)), .val (.int (Int32.ofNat cs.length)), .val (.ref h0.size)] [(.int (Int32.ofNat cs.length)), (.int (0 : Int32)), (.ref h0.size), (.int (0 : Int32)), (.ref ba)]
  refine Go.cp C d29_27 (hw _ (List.mem_of_getElem? (i := 163) rfl)) (hw _ (List.mem_of_getElem? (i := 166) rfl)) (hw _ (List.mem_of_getElem? (i := 164) rfl)) (hw _ (List.mem_of_getElem? (i := 165) rfl)) (V.ext E1) V1 rfl (by decide) (by decide) (own_pos _ (by omega)) (by rw [own_clamp _ (by omega)]; show 0 + cs.length ≤ 20; omega) (by show 0 + _ ≤ _; omega) (own_cpus cs (by omega)) (by rw [own_clamp _ (by omega)]; show 0 + cs.length ≤ 20; omega) Z0 rfl (by decide) (W := 0) (by decide) (by decide) (fun _ _ _ q => q) (pc' := 30) rfl ?_
  intro h2 K2 V2
  refine Go.aload C d29_30 rfl rfl (pc' := 32) rfl ?_
  refine Go.retA C rfl d29_32 rfl (by decide) (by decide) ?_
  exact ⟨h0.size, kt, rfl, Nat.le_refl _, ((Keep.refl _ _).ext E1).trans K2 (allS (Or.inr (Nat.le_refl _)) all0), V2.pad (own_padr _ _ _)⟩
set_option maxRecDepth 65536 in
set_option maxHeartbeats 40000000 in
theorem rm_cpr (l : Launch) (Z : State) (a0 : Array Value) (hw : ∀ d ∈ tables_1, d.before a0 Z = true) (ba : Addr) (kb : ClassId) (cs : List Int32) (h0 : Heap) (n0 : Nat) (Z0 : n0 ≤ h0.size) (V : Arv Z h0 ba kb .byte (20 : Int32) (own_pad cs) (.int 0)) (A : Exa Z h0 ba "[B") (hl : cs.length < 21) :
    Ct l Z (⟨"java/util/Arrays", "copyOfRange", "([BII)[B"⟩ : MethodName) jdk_65_method_132_code 3 (some (.array .byte)) [] ({ frames := 2, cells := 1, slots := 20, locals := 34 } : Room) #[.ref ba, .int 0, .int (Int32.ofNat cs.length)] h0 n0 (fun v h => ∃ t kt, v = some (.ref t) ∧ h0.size ≤ t ∧ Keep h0 h [] ∧ Arv Z h t kt .byte (Int32.ofNat cs.length) ((cs.map fun c => c.toInt8.toInt32).map Value.int) (.int 0)) := by
  refine Ct.of (L0 := #[.val (.ref ba), .val (.int (0 : Int32)), .val (.int (Int32.ofNat cs.length))]) (plainFor_of_name pn_java_util_Arrays) (fun m => by first | (simp [entryFrame, mkF, argsToLocals, Value.category]; done) | rfl) ?_
  intro p e s m below meth c C hnm
  refine Go.iloadN C d28_0 rfl (pc' := 1) rfl ?_
  refine Go.if_ne_f C d28_1 (by decide) (pc' := 4) rfl ?_
  refine Go.iloadN C d28_4 rfl (pc' := 5) rfl ?_
  refine Go.aloadN C d28_5 rfl rfl (pc' := 6) rfl ?_
  refine Go.arraylengthV C d28_6 V (pc' := 7) rfl ?_
  refine Go.icmp_eq C d28_7 (by decide) (pc1 := 17) (by decide) (pc2 := 10) rfl (fun hc => ?_) (fun hc => ?_)
  · refine Go.aloadN C d28_17 rfl rfl (pc' := 18) rfl ?_
    have h20 := own_eq20 _ hl hc
    refine Go.cloneV C bnE d28_18 (hw _ (List.mem_of_getElem? (i := 227) rfl)) (hw _ (List.mem_of_getElem? (i := 228) rfl)) (hw _ (List.mem_of_getElem? (i := 232) rfl)) (hw _ (List.mem_of_getElem? (i := 230) rfl)) (hw _ (List.mem_of_getElem? (i := 231) rfl)) (hw _ (List.mem_of_getElem? (i := 233) rfl)) V A rfl (by decide) (Nat.le_of_ble_eq_true rfl) (cap := 20) (by decide) (by decide) (by decide) (pc' := 21) rfl ?_
    intro h1 E1 V1 A1
    refine Go.castY C d28_21 (hw _ (List.mem_of_getElem? (i := 234) rfl)) (Ins.self A1) (pc' := 24) rfl ?_
    refine Go.retA C rfl d28_24 rfl (by decide) (by decide) ?_
    refine ⟨h0.size, kb, rfl, Nat.le_refl _, (Keep.refl _ _).ext E1, ?_⟩
    rw [own_pad_20 cs h20] at V1; rw [h20]; exact V1
  · refine Go.aloadN C d28_10 rfl rfl (pc' := 11) rfl ?_
    refine Go.iloadN C d28_11 rfl (pc' := 12) rfl ?_
    refine Go.iloadN C d28_12 rfl (pc' := 13) rfl ?_
    refine Go.callS C d28_13 (hw _ (List.mem_of_getElem? (i := 153) rfl)) (hw _ (List.mem_of_getElem? (i := 154) rfl)) (hw _ (List.mem_of_getElem? (i := 151) rfl)) (hw _ (List.mem_of_getElem? (i := 155) rfl)) (by decide) (argsL := [(.ref ba), (.int (0 : Int32)), (.int (Int32.ofNat cs.length))]) (rest := []) rfl (lenOf pd___BII__B rfl) rfl (W := 0) (Nat.le_of_ble_eq_true rfl) (Ct.pay (rm_crb l Z a0 hw ba kb cs h0 n0 Z0 V A hl) (hw _ (List.mem_of_getElem? (i := 155) rfl)) (hw _ (List.mem_of_getElem? (i := 151) rfl)) (by decide) (by decide)) (fun _ _ _ q => q.2) (by decide) (by decide) (fun _ _ _ _ _ q => q) (pc' := 16) rfl ?_
    rintro _ h1 L1 ⟨⟨t, kt, rfl, q1⟩, -⟩
    show Go p l e ({ frames := 2, cells := 1, slots := 20, locals := 34 } : Room) s m #[.ref ba, .int 0, .int (Int32.ofNat cs.length)] below meth c Z "java/util/Arrays" n0 (Bn s) (EnN s ({ frames := 2, cells := 1, slots := 20, locals := 34 } : Room) n0 (fun v h => ∃ t kt, v = some (.ref t) ∧ h0.size ≤ t ∧ Keep h0 h [] ∧ Arv Z h t kt .byte (Int32.ofNat cs.length) ((cs.map fun c => c.toInt8.toInt32).map Value.int) (.int 0))) _ _ _ 16 #[.val (.ref ba), .val (.int (0 : Int32)), .val (.int (Int32.ofNat cs.length))] [(.ref t)]
    refine Go.retA C rfl d28_16 rfl (by decide) (by decide) ?_
    exact ⟨t, kt, rfl, q1⟩
set_option maxRecDepth 65536 in
set_option maxHeartbeats 40000000 in
theorem rm_gv (l : Launch) (Z : State) (a0 : Array Value) (hw : ∀ d ∈ tables_1, d.before a0 Z = true) (sa ba : Addr) (kb : ClassId) (cs : List Int32) (h0 : Heap) (n0 : Nat) (B : own_B Z h0 sa ba kb cs) :
    Ct l Z (⟨"java/lang/AbstractStringBuilder", "getValue", "()[B"⟩ : MethodName) jdk_68_method_64_code 1 (some (.array .byte)) [] ({ frames := 0, cells := 0, slots := 0, locals := 0 } : Room) #[.ref sa] h0 n0 (fun v h => v = some (.ref ba) ∧ h0 = h) := by
  refine Ct.of (L0 := #[.val (.ref sa)]) (plainFor_of_name pn_java_lang_AbstractStringBuilder) (fun m => by first | (simp [entryFrame, mkF, argsToLocals, Value.category]; done) | rfl) ?_
  intro p e s m below meth c C hnm
  refine Go.aloadN C d25_0 rfl rfl (pc' := 1) rfl ?_
  refine Go.getF C d25_1 (hw _ (List.mem_of_getElem? (i := 48) rfl)) Via.refl B.2.1 (pc' := 4) rfl ?_
  refine Go.retA C rfl d25_4 rfl (by decide) (by decide) ?_
  exact ⟨rfl, rfl⟩
set_option maxRecDepth 65536 in
set_option maxHeartbeats 40000000 in
theorem rm_ln1 (l : Launch) (Z : State) (a0 : Array Value) (hw : ∀ d ∈ tables_1, d.before a0 Z = true) (sa ba : Addr) (kb : ClassId) (cs : List Int32) (h0 : Heap) (n0 : Nat) (B : own_B Z h0 sa ba kb cs) :
    Ct l Z (⟨"java/lang/AbstractStringBuilder", "length", "()I"⟩ : MethodName) jdk_68_method_6_code 1 (some .int) [] ({ frames := 0, cells := 0, slots := 0, locals := 0 } : Room) #[.ref sa] h0 n0 (fun v h => v = some (.int (Int32.ofNat cs.length)) ∧ h0 = h) := by
  refine Ct.of (L0 := #[.val (.ref sa)]) (plainFor_of_name pn_java_lang_AbstractStringBuilder) (fun m => by first | (simp [entryFrame, mkF, argsToLocals, Value.category]; done) | rfl) ?_
  intro p e s m below meth c C hnm
  refine Go.aloadN C d27_0 rfl rfl (pc' := 1) rfl ?_
  refine Go.getF C d27_1 (hw _ (List.mem_of_getElem? (i := 102) rfl)) Via.refl B.2.2.2.1 (pc' := 4) rfl ?_
  refine Go.retI C d27_4 (by decide) (by decide) ?_
  exact ⟨rfl, rfl⟩
set_option maxRecDepth 65536 in
set_option maxHeartbeats 40000000 in
theorem rm_ln2 (l : Launch) (Z : State) (a0 : Array Value) (hw : ∀ d ∈ tables_1, d.before a0 Z = true) (sa ba : Addr) (kb : ClassId) (cs : List Int32) (h0 : Heap) (n0 : Nat) (B : own_B Z h0 sa ba kb cs) :
    Ct l Z (⟨"java/lang/StringBuilder", "length", "()I"⟩ : MethodName) jdk_67_method_93_code 1 (some .int) [] ({ frames := 1, cells := 0, slots := 0, locals := 12 } : Room) #[.ref sa] h0 n0 (fun v h => v = some (.int (Int32.ofNat cs.length)) ∧ h0 = h) := by
  refine Ct.of (L0 := #[.val (.ref sa)]) (plainFor_of_name pn_java_lang_StringBuilder) (fun m => by first | (simp [entryFrame, mkF, argsToLocals, Value.category]; done) | rfl) ?_
  intro p e s m below meth c C hnm
  refine Go.aloadN C d26_0 rfl rfl (pc' := 1) rfl ?_
  refine Go.callU C d26_1 (hw _ (List.mem_of_getElem? (i := 146) rfl)) (sameOf (hw _ (List.mem_of_getElem? (i := 141) rfl)) ((fun st hZ => nfSame (y := ({ cls := "java/lang/AbstractStringBuilder", name := "length", desc := "()I" } : Jvm.MethodName)) (y' := ({ cls := "java/lang/AbstractStringBuilder", name := "isLatin1", desc := "()Z" } : Jvm.MethodName)) rfl (mvT (args := #[]) hZ (hw _ (List.mem_of_getElem? (i := 110) rfl))) (notFace_of_selects (args := #[]) (mvT hZ (hw _ (List.mem_of_getElem? (i := 112) rfl))))) Z (State.Warmed39.refl Z)) (by decide)) (hw _ (List.mem_of_getElem? (i := 142) rfl)) (hw _ (List.mem_of_getElem? (i := 99) rfl)) (by decide) (hw _ (List.mem_of_getElem? (i := 147) rfl)) (Ins.self B.1) (argsL := []) (rest := []) rfl (lenOf pd___I rfl) rfl (W := 0) (Nat.le_of_ble_eq_true rfl) (Ct.pay (rm_ln1 l Z a0 hw sa ba kb cs h0 n0 B) (hw _ (List.mem_of_getElem? (i := 147) rfl)) (hw _ (List.mem_of_getElem? (i := 44) rfl)) (by decide) (by decide)) (fun _ _ _ q => q.2) (by decide) (by decide) (fun _ _ _ _ _ q => q) (pc' := 4) rfl ?_
  rintro _ _ L1 ⟨⟨rfl, rfl⟩, -⟩
  show Go p l e _ s m _ below meth c Z _ n0 _ _ _ _ _ 4 #[.val (.ref sa)] [(.int (Int32.ofNat cs.length))]
  refine Go.retI C d26_4 (by decide) (by decide) ?_
  exact ⟨rfl, rfl⟩
set_option maxRecDepth 65536 in
set_option maxHeartbeats 40000000 in
theorem rm_si1 (l : Launch) (Z : State) (a0 : Array Value) (hw : ∀ d ∈ tables_1, d.before a0 Z = true) (xa sa ba : Addr) (kb : ClassId) (cs : List Int32) (v0 c0 : Value) (z : Int32) (h0 : Heap) (n0 : Nat) (nx : n0 ≤ xa) (Z0 : n0 ≤ h0.size) (B : own_B Z h0 sa ba kb cs) (hbx : ba ≠ xa) (hl : cs.length < 21) (hr : ∀ c ∈ cs, ¬ c < 0 ∧ ¬ (255 : Int32) < c) (E : Exa Z h0 xa "java/lang/String") (Fv : Fld Z h0 xa "java/lang/String" "value" "[B" v0) (Fc : Fld Z h0 xa "java/lang/String" "coder" "B" c0) (St : Sta Z Z.heap "java/lang/String" "COMPACT_STRINGS" "Z" (.int z)) (hz : ¬ z = 0) (O0 : Old Z n0 h0) :
    Ct l Z (⟨"java/lang/String", "<init>", "(Ljava/lang/AbstractStringBuilder;Ljava/lang/Void;)V"⟩ : MethodName) jdk_42_method_150_code 5 none [] ({ frames := 3, cells := 1, slots := 20, locals := 49 } : Room) #[.ref xa, .ref sa, .null] h0 n0 (fun v h => v = none ∧ Keep h0 h [xa] ∧ ∃ t kt, Str Z h xa t kt cs) := by
  refine Ct.of (L0 := #[.val (.ref xa), .val (.ref sa), .val .null, .unset, .unset]) (plainFor_of_name pn_java_lang_String) (fun m => by first | (simp [entryFrame, mkF, argsToLocals, Value.category]; done) | rfl) ?_
  intro p e s m below meth c C hnm
  refine Go.aloadN C d24_0 rfl rfl (pc' := 1) rfl ?_
  refine Go.initO C d24_1 (hw _ (List.mem_of_getElem? (i := 11) rfl)) (hw _ (List.mem_of_getElem? (i := 12) rfl)) (hw _ (List.mem_of_getElem? (i := 13) rfl)) rfl (by decide) (by decide) (pc' := 4) rfl ?_
  refine Go.aloadN C d24_4 rfl rfl (pc' := 5) rfl ?_
  refine Go.callV C d24_5 (hw _ (List.mem_of_getElem? (i := 135) rfl)) (hw _ (List.mem_of_getElem? (i := 136) rfl)) (hw _ (List.mem_of_getElem? (i := 138) rfl)) (hw _ (List.mem_of_getElem? (i := 137) rfl)) (fun st hZ => notFace_of_selects (args := #[]) (mvT hZ (hw _ (List.mem_of_getElem? (i := 138) rfl)))) (by decide) B.1 (argsL := []) (rest := []) rfl (lenOf pd____B rfl) rfl (W := 0) (Nat.le_of_ble_eq_true rfl) (Ct.pay (rm_gv l Z a0 hw sa ba kb cs h0 n0 B) (hw _ (List.mem_of_getElem? (i := 139) rfl)) (hw _ (List.mem_of_getElem? (i := 44) rfl)) (by decide) (by decide)) (fun _ _ _ q => q.2) (by decide) (by decide) (fun _ _ _ _ _ q => q) (pc' := 8) rfl ?_
  rintro _ _ L1 ⟨⟨rfl, rfl⟩, -⟩
  show Go p l e ({ frames := 3, cells := 1, slots := 20, locals := 49 } : Room) s m #[.ref xa, .ref sa, .null] below meth c Z "java/lang/String" n0 (Bn s) (EnN s ({ frames := 3, cells := 1, slots := 20, locals := 49 } : Room) n0 (fun v h => v = none ∧ Keep h0 h [xa] ∧ ∃ t kt, Str Z h xa t kt cs)) _ _ _ 8 #[.val (.ref xa), .val (.ref sa), .val .null, .unset, .unset] [(.ref ba)]
  refine Go.astoreN C d24_8 rfl (L' := #[.val (.ref xa), .val (.ref sa), .val .null, .val (.ref ba), .unset]) rfl (pc' := 9) rfl ?_
  refine Go.aloadN C d24_9 rfl rfl (pc' := 10) rfl ?_
  refine Go.callV C d24_10 (hw _ (List.mem_of_getElem? (i := 140) rfl)) (hw _ (List.mem_of_getElem? (i := 141) rfl)) (hw _ (List.mem_of_getElem? (i := 143) rfl)) (hw _ (List.mem_of_getElem? (i := 144) rfl)) (fun st hZ => nfSame (y := ({ cls := "java/lang/AbstractStringBuilder", name := "length", desc := "()I" } : Jvm.MethodName)) (y' := ({ cls := "java/lang/AbstractStringBuilder", name := "isLatin1", desc := "()Z" } : Jvm.MethodName)) rfl (mvT (args := #[]) hZ (hw _ (List.mem_of_getElem? (i := 110) rfl))) (notFace_of_selects (args := #[]) (mvT hZ (hw _ (List.mem_of_getElem? (i := 112) rfl))))) (by decide) B.1 (argsL := []) (rest := []) rfl (lenOf pd___I rfl) rfl (W := 0) (Nat.le_of_ble_eq_true rfl) (Ct.pay (rm_ln2 l Z a0 hw sa ba kb cs h0 n0 B) (hw _ (List.mem_of_getElem? (i := 145) rfl)) (hw _ (List.mem_of_getElem? (i := 36) rfl)) (by decide) (by decide)) (fun _ _ _ q => q.2) (by decide) (by decide) (fun _ _ _ _ _ q => q) (pc' := 13) rfl ?_
  rintro _ _ L2 ⟨⟨rfl, rfl⟩, -⟩
  show Go p l e ({ frames := 3, cells := 1, slots := 20, locals := 49 } : Room) s m #[.ref xa, .ref sa, .null] below meth c Z "java/lang/String" n0 (Bn s) (EnN s ({ frames := 3, cells := 1, slots := 20, locals := 49 } : Room) n0 (fun v h => v = none ∧ Keep h0 h [xa] ∧ ∃ t kt, Str Z h xa t kt cs)) _ _ _ 13 #[.val (.ref xa), .val (.ref sa), .val .null, .val (.ref ba), .unset] [(.int (Int32.ofNat cs.length))]
  refine Go.istore C d24_13 (L' := #[.val (.ref xa), .val (.ref sa), .val .null, .val (.ref ba), .val (.int (Int32.ofNat cs.length))]) rfl (pc' := 15) rfl ?_
  refine Go.aloadN C d24_15 rfl rfl (pc' := 16) rfl ?_
  refine Go.callV C d24_16 (hw _ (List.mem_of_getElem? (i := 148) rfl)) (hw _ (List.mem_of_getElem? (i := 110) rfl)) (hw _ (List.mem_of_getElem? (i := 112) rfl)) (hw _ (List.mem_of_getElem? (i := 111) rfl)) (fun st hZ => notFace_of_selects (args := #[]) (mvT hZ (hw _ (List.mem_of_getElem? (i := 112) rfl)))) (by decide) B.1 (argsL := []) (rest := []) rfl (lenOf pd___Z rfl) rfl (W := 0) (Nat.le_of_ble_eq_true rfl) (Ct.pay (rm_lat l Z a0 hw sa ba kb cs z h0 n0 B St hz O0) (hw _ (List.mem_of_getElem? (i := 113) rfl)) (hw _ (List.mem_of_getElem? (i := 44) rfl)) (by decide) (by decide)) (fun _ _ _ q => q.2) (by decide) (by decide) (fun _ _ _ _ _ q => q) (pc' := 19) rfl ?_
  rintro _ _ L3 ⟨⟨rfl, rfl⟩, -⟩
  show Go p l e ({ frames := 3, cells := 1, slots := 20, locals := 49 } : Room) s m #[.ref xa, .ref sa, .null] below meth c Z "java/lang/String" n0 (Bn s) (EnN s ({ frames := 3, cells := 1, slots := 20, locals := 49 } : Room) n0 (fun v h => v = none ∧ Keep h0 h [xa] ∧ ∃ t kt, Str Z h xa t kt cs)) _ _ _ 19 #[.val (.ref xa), .val (.ref sa), .val .null, .val (.ref ba), .val (.int (Int32.ofNat cs.length))] [(.int (1 : Int32))]
  refine Go.if_eq_f C d24_19 (by decide) (pc' := 22) rfl ?_
  refine Go.aloadN C d24_22 rfl rfl (pc' := 23) rfl ?_
  refine Go.iconst C d24_23 (v := 0) rfl (pc' := 24) rfl ?_
  refine Go.putF C d24_24 (hw _ (List.mem_of_getElem? (i := 26) rfl)) Via.refl Fc E (Or.inr ⟨(hw _ (List.mem_of_getElem? (i := 27) rfl)), rfl, hnm⟩) (hw _ (List.mem_of_getElem? (i := 2) rfl)) (ty := .byte) (by decide) rfl rfl nx (fun _ _ _ q => q) (pc' := 27) rfl ?_
  intro h1 W1
  have K1 := (Keep.refl h0 [xa]).wr W1 (Or.inl (by simp))
  refine Go.aloadN C d24_27 rfl rfl (pc' := 28) rfl ?_
  refine Go.aloadN C d24_28 rfl rfl (pc' := 29) rfl ?_
  refine Go.iconst C d24_29 (v := 0) rfl (pc' := 30) rfl ?_
  refine Go.iload C d24_30 rfl (pc' := 32) rfl ?_
  refine Go.callS C d24_32 (hw _ (List.mem_of_getElem? (i := 149) rfl)) (hw _ (List.mem_of_getElem? (i := 150) rfl)) (hw _ (List.mem_of_getElem? (i := 151) rfl)) (hw _ (List.mem_of_getElem? (i := 152) rfl)) (by decide) (argsL := [(.ref ba), (.int (0 : Int32)), (.int (Int32.ofNat cs.length))]) (rest := [(.ref xa)]) rfl (lenOf pd___BII__B rfl) rfl (W := 1) (Nat.le_of_ble_eq_true rfl) (Ct.pay (rm_cpr l Z a0 hw ba kb cs h1 n0 (Nat.le_trans Z0 K1.1) (B.2.2.2.2.1.other W1 hbx) (B.2.2.2.2.2.1.wr W1) hl) (hw _ (List.mem_of_getElem? (i := 152) rfl)) (hw _ (List.mem_of_getElem? (i := 151) rfl)) (by decide) (by decide)) (fun _ _ _ q => q.2) (by decide) (by decide) (fun _ _ _ _ _ q => q) (pc' := 35) rfl ?_
  rintro _ h2 L4 ⟨⟨t, kt, rfl, ht, K2, V2⟩, -⟩
  show Go p l e ({ frames := 3, cells := 1, slots := 20, locals := 49 } : Room) s m #[.ref xa, .ref sa, .null] below meth c Z "java/lang/String" n0 (Bn s) (EnN s ({ frames := 3, cells := 1, slots := 20, locals := 49 } : Room) n0 (fun v h => v = none ∧ Keep h0 h [xa] ∧ ∃ t kt, Str Z h xa t kt cs)) _ _ _ 35 #[.val (.ref xa), .val (.ref sa), .val .null, .val (.ref ba), .val (.int (Int32.ofNat cs.length))] [(.ref t), (.ref xa)]
  refine Go.putF C d24_35 (hw _ (List.mem_of_getElem? (i := 28) rfl)) Via.refl ((Fv.other W1 (Or.inr (slot_ne (C := "java/lang/String") (Or.inr (hw _ (List.mem_of_getElem? (i := 29) rfl))) (Or.inr (hw _ (List.mem_of_getElem? (i := 27) rfl))) (by decide) (t := (.array .byte)) (t' := .byte) (by decide) (by decide)))).keep K2 nin0) ((E.wr W1).keep K2) (Or.inr ⟨(hw _ (List.mem_of_getElem? (i := 29) rfl)), rfl, hnm⟩) (hw _ (List.mem_of_getElem? (i := 2) rfl)) (ty := (.array .byte)) (by decide) rfl rfl nx (fun _ _ _ q => q) (pc' := 38) rfl ?_
  intro h3 W3
  refine Go.goto C d24_38 (by decide) (pc' := 97) (by decide) ?_
  refine Go.retV C d24_97 (by decide) (by decide) ?_
  have hxt : t ≠ xa := fun q => Nat.lt_irrefl _ (Nat.lt_of_lt_of_le (Nat.lt_of_lt_of_le E.lt K1.1) (q ▸ ht))
  exact ⟨rfl, (K1.trans K2 all0).wr W3 (Or.inl (by simp)), t, kt, ((E.wr W1).keep K2).wr W3, ((Fc.same W1).keep K2 nin0).other W3 (Or.inr (slot_ne (C := "java/lang/String") (Or.inr (hw _ (List.mem_of_getElem? (i := 27) rfl))) (Or.inr (hw _ (List.mem_of_getElem? (i := 29) rfl))) (by decide) (t := .byte) (t' := (.array .byte)) (by decide) (by decide))), ((Fv.other W1 (Or.inr (slot_ne (C := "java/lang/String") (Or.inr (hw _ (List.mem_of_getElem? (i := 29) rfl))) (Or.inr (hw _ (List.mem_of_getElem? (i := 27) rfl))) (by decide) (t := (.array .byte)) (t' := .byte) (by decide) (by decide)))).keep K2 nin0).same W3, V2.other W3 hxt, hr, by omega⟩
set_option maxRecDepth 65536 in
set_option maxHeartbeats 40000000 in
theorem rm_si2 (l : Launch) (Z : State) (a0 : Array Value) (hw : ∀ d ∈ tables_1, d.before a0 Z = true) (xa sa ba : Addr) (kb : ClassId) (cs : List Int32) (v0 c0 : Value) (z : Int32) (h0 : Heap) (n0 : Nat) (nx : n0 ≤ xa) (Z0 : n0 ≤ h0.size) (B : own_B Z h0 sa ba kb cs) (hbx : ba ≠ xa) (hl : cs.length < 21) (hr : ∀ c ∈ cs, ¬ c < 0 ∧ ¬ (255 : Int32) < c) (E : Exa Z h0 xa "java/lang/String") (Fv : Fld Z h0 xa "java/lang/String" "value" "[B" v0) (Fc : Fld Z h0 xa "java/lang/String" "coder" "B" c0) (St : Sta Z Z.heap "java/lang/String" "COMPACT_STRINGS" "Z" (.int z)) (hz : ¬ z = 0) (O0 : Old Z n0 h0) :
    Ct l Z (⟨"java/lang/String", "<init>", "(Ljava/lang/StringBuilder;)V"⟩ : MethodName) jdk_42_method_53_code 2 none [] ({ frames := 4, cells := 1, slots := 20, locals := 65 } : Room) #[.ref xa, .ref sa] h0 n0 (fun v h => v = none ∧ Keep h0 h [xa] ∧ ∃ t kt, Str Z h xa t kt cs) := by
  refine Ct.of (L0 := #[.val (.ref xa), .val (.ref sa)]) (plainFor_of_name pn_java_lang_String) (fun m => by first | (simp [entryFrame, mkF, argsToLocals, Value.category]; done) | rfl) ?_
  intro p e s m below meth c C hnm
  refine Go.aloadN C d23_0 rfl rfl (pc' := 1) rfl ?_
  refine Go.aloadN C d23_1 rfl rfl (pc' := 2) rfl ?_
  refine Go.aconstNull C d23_2 (pc' := 3) rfl ?_
  refine Go.callN C d23_3 rfl (hw _ (List.mem_of_getElem? (i := 132) rfl)) (hw _ (List.mem_of_getElem? (i := 133) rfl)) (hw _ (List.mem_of_getElem? (i := 134) rfl)) (by decide) (argsL := [(.ref sa), .null]) (rest := []) rfl (lenOf pd__Ljava_lang_AbstractStringBuilder_Ljava_lang_Void__V rfl) rfl (W := 0) (Nat.le_of_ble_eq_true rfl) (Ct.pay (rm_si1 l Z a0 hw xa sa ba kb cs v0 c0 z h0 n0 nx Z0 B hbx hl hr E Fv Fc St hz O0) (hw _ (List.mem_of_getElem? (i := 134) rfl)) (hw _ (List.mem_of_getElem? (i := 3) rfl)) (by decide) (by decide)) (fun _ _ _ q => q.2) (by decide) (by decide) (fun _ _ _ _ _ q => q) (pc' := 6) rfl ?_
  rintro _ h1 L1 ⟨⟨rfl, q1⟩, -⟩
  show Go p l e ({ frames := 4, cells := 1, slots := 20, locals := 65 } : Room) s m #[.ref xa, .ref sa] below meth c Z "java/lang/String" n0 (Bn s) (EnN s ({ frames := 4, cells := 1, slots := 20, locals := 65 } : Room) n0 (fun v h => v = none ∧ Keep h0 h [xa] ∧ ∃ t kt, Str Z h xa t kt cs)) _ _ _ 6 #[.val (.ref xa), .val (.ref sa)] []
  refine Go.retV C d23_6 (by decide) (by decide) ?_
  exact ⟨rfl, q1⟩
set_option maxRecDepth 65536 in
set_option maxHeartbeats 40000000 in
theorem rm_tos (l : Launch) (Z : State) (a0 : Array Value) (hw : ∀ d ∈ tables_1, d.before a0 Z = true) (sa ba : Addr) (kb : ClassId) (cs : List Int32) (z : Int32) (h0 : Heap) (n0 : Nat) (Z0 : n0 ≤ h0.size) (B : own_B Z h0 sa ba kb cs) (hl : cs.length < 21) (hr : ∀ c ∈ cs, ¬ c < 0 ∧ ¬ (255 : Int32) < c) (St : Sta Z Z.heap "java/lang/String" "COMPACT_STRINGS" "Z" (.int z)) (hz : ¬ z = 0) (O0 : Old Z n0 h0) :
    Ct l Z (⟨"java/lang/StringBuilder", "toString", "()Ljava/lang/String;"⟩ : MethodName) jdk_67_method_42_code 1 (some (.object "java/lang/String")) [] ({ frames := 5, cells := 2, slots := 24, locals := 79 } : Room) #[.ref sa] h0 n0 (fun v h => ∃ a t kt, v = some (.ref a) ∧ Keep h0 h [] ∧ Str Z h a t kt cs) := by
  refine Ct.of (L0 := #[.val (.ref sa)]) (plainFor_of_name pn_java_lang_StringBuilder) (fun m => by first | (simp [entryFrame, mkF, argsToLocals, Value.category]; done) | rfl) ?_
  intro p e s m below meth c C hnm
  refine Go.newO C bnE d22_0 (hw _ (List.mem_of_getElem? (i := 128) rfl)) (hw _ (List.mem_of_getElem? (i := 2) rfl)) (hw _ (List.mem_of_getElem? (i := 3) rfl)) (by decide) (by decide) (pc' := 3) rfl ?_
  intro h1 E1 A1 D1 U1
  obtain ⟨xa, e_xa⟩ : ∃ a, a = h0.size := ⟨_, rfl⟩
  rw [← e_xa] at A1 D1 U1 ⊢
  show Go p l e _ s m _ below meth c Z _ n0 _ _ _ _ _ 3 #[.val (.ref sa)] [(.ref xa)]
  have nx : n0 ≤ xa := e_xa ▸ Z0
  have Fc := D1 (Or.inr (hw _ (List.mem_of_getElem? (i := 27) rfl))) (ty := .byte) (by decide)
  have Fv := D1 (Or.inr (hw _ (List.mem_of_getElem? (i := 29) rfl))) (ty := (.array .byte)) (by decide)
  refine Go.dup C d22_3 rfl (pc' := 4) rfl ?_
  refine Go.aloadN C d22_4 rfl rfl (pc' := 5) rfl ?_
  refine Go.callN C d22_5 rfl (hw _ (List.mem_of_getElem? (i := 129) rfl)) (hw _ (List.mem_of_getElem? (i := 130) rfl)) (hw _ (List.mem_of_getElem? (i := 131) rfl)) (by decide) (argsL := [(.ref sa)]) (rest := [(.ref xa)]) rfl (lenOf pd__Ljava_lang_StringBuilder__V rfl) rfl (W := 1) (Nat.le_of_ble_eq_true rfl) (Ct.pay (rm_si2 l Z a0 hw xa sa ba kb cs _ _ z h1 n0 nx (Nat.le_trans Z0 E1.1) (B.ext E1) (Nat.ne_of_lt (e_xa ▸ B.2.2.2.2.1.lt)) hl hr A1 Fv Fc St hz (O0.ext E1)) (hw _ (List.mem_of_getElem? (i := 131) rfl)) (hw _ (List.mem_of_getElem? (i := 3) rfl)) (by decide) (by decide)) (fun _ _ _ q => q.2) (by decide) (by decide) (fun _ _ _ _ _ q => q) (pc' := 8) rfl ?_
  rintro _ h2 L1 ⟨⟨rfl, K2, t, kt, S2⟩, -⟩
  show Go p l e _ s m _ below meth c Z _ n0 _ _ _ _ _ 8 #[.val (.ref sa)] [(.ref xa)]
  refine Go.retA C rfl d22_8 rfl (by decide) (by decide) ?_
  exact ⟨xa, t, kt, rfl, ((Keep.refl _ _).ext E1).trans K2 (allS (Or.inr (Nat.le_of_eq e_xa.symm)) all0), S2⟩
set_option maxRecDepth 65536 in
set_option maxHeartbeats 40000000 in
theorem rm_cmp (l : Launch) (Z : State) (a0 : Array Value) (hw : ∀ d ∈ tables_1, d.before a0 Z = true) (x y : Int64) (h0 : Heap) (n0 : Nat)  :
    Ct l Z (⟨"java/lang/Long", "compare", "(JJ)I"⟩ : MethodName) jdk_35_method_42_code 4 (some .int) [] ({ frames := 0, cells := 0, slots := 0, locals := 0 } : Room) #[.long x, .long y] h0 n0 (fun v h => (∃ r : Int32, v = some (.int r) ∧ (r < 0 ↔ x < y) ∧ (0 < r ↔ y < x)) ∧ h0 = h) := by
  refine Ct.of (L0 := #[.val (.long x), .second, .val (.long y), .second]) (plainFor_of_name pn_java_lang_Long) (fun m => by first | (simp [entryFrame, mkF, argsToLocals, Value.category]; done) | rfl) ?_
  intro p e s m below meth c C hnm
  refine Go.lloadN C d11_0 rfl (pc' := 1) rfl ?_
  refine Go.lloadN C d11_1 rfl (pc' := 2) rfl ?_
  refine Go.lcmp C d11_2 (pc' := 3) rfl ?_
  refine Go.if_ge C d11_3 (by decide) (pc1 := 10) (by decide) (pc2 := 6) rfl (fun hc => ?_) (fun hc => ?_)
  · have q : ¬ x < y := fun z => hc (own_lc_lt.mpr z)
    refine Go.lloadN C d11_10 rfl (pc' := 11) rfl ?_
    refine Go.lloadN C d11_11 rfl (pc' := 12) rfl ?_
    refine Go.lcmp C d11_12 (pc' := 13) rfl ?_
    refine Go.if_ne C d11_13 (by decide) (pc1 := 20) (by decide) (pc2 := 16) rfl (fun hd => ?_) (fun hd => ?_)
    · have q2 : ¬ x = y := fun z => hd (own_lc_eq.mpr z)
      refine Go.iconst C d11_20 (v := 1) rfl (pc' := 21) rfl ?_
      refine Go.retI C d11_21 (by decide) (by decide) ?_
      exact ⟨⟨_, rfl, iff_of_false (by decide) q, iff_of_true (by decide) (own_tri q q2)⟩, rfl⟩
    · have q2 : x = y := own_lc_eq.mp hd
      refine Go.iconst C d11_16 (v := 0) rfl (pc' := 17) rfl ?_
      refine Go.goto C d11_17 (by decide) (pc' := 21) (by decide) ?_
      refine Go.retI C d11_21 (by decide) (by decide) ?_
      exact ⟨⟨_, rfl, iff_of_false (by decide) q, iff_of_false (by decide) (q2 ▸ own_irr x)⟩, rfl⟩
  · have q := own_lc_lt.mp hc
    refine Go.iconst C d11_6 (v := -1) rfl (pc' := 7) rfl ?_
    refine Go.goto C d11_7 (by decide) (pc' := 21) (by decide) ?_
    refine Go.retI C d11_21 (by decide) (by decide) ?_
    exact ⟨⟨_, rfl, iff_of_true (by decide) q, iff_of_false (by decide) (own_asym q)⟩, rfl⟩
set_option maxRecDepth 65536 in
set_option maxHeartbeats 40000000 in
theorem rm_cmu (l : Launch) (Z : State) (a0 : Array Value) (hw : ∀ d ∈ tables_1, d.before a0 Z = true) (x y : Int64) (h0 : Heap) (n0 : Nat)  :
    Ct l Z (⟨"java/lang/Long", "compareUnsigned", "(JJ)I"⟩ : MethodName) jdk_35_method_43_code 4 (some .int) [] ({ frames := 1, cells := 0, slots := 0, locals := 15 } : Room) #[.long x, .long y] h0 n0 (fun v h => (∃ r : Int32, v = some (.int r) ∧ (r < 0 ↔ own_N x < own_N y) ∧ (0 < r ↔ own_N y < own_N x)) ∧ h0 = h) := by
  refine Ct.of (L0 := #[.val (.long x), .second, .val (.long y), .second]) (plainFor_of_name pn_java_lang_Long) (fun m => by first | (simp [entryFrame, mkF, argsToLocals, Value.category]; done) | rfl) ?_
  intro p e s m below meth c C hnm
  refine Go.lloadN C d10_0 rfl (pc' := 1) rfl ?_
  refine Go.ldc2Long C d10_1 (hw _ (List.mem_of_getElem? (i := 57) rfl)) (pc' := 4) rfl ?_
  refine Go.ladd C d10_4 (pc' := 5) rfl ?_
  refine Go.lloadN C d10_5 rfl (pc' := 6) rfl ?_
  refine Go.ldc2Long C d10_6 (hw _ (List.mem_of_getElem? (i := 57) rfl)) (pc' := 9) rfl ?_
  refine Go.ladd C d10_9 (pc' := 10) rfl ?_
  refine Go.callS C d10_10 (hw _ (List.mem_of_getElem? (i := 58) rfl)) (hw _ (List.mem_of_getElem? (i := 59) rfl)) (hw _ (List.mem_of_getElem? (i := 55) rfl)) (hw _ (List.mem_of_getElem? (i := 60) rfl)) (by decide) (argsL := [(.long (x + (-9223372036854775808 : Int64))), (.long (y + (-9223372036854775808 : Int64)))]) (rest := []) rfl (lenOf pd__JJ_I rfl) rfl (W := 0) (Nat.le_of_ble_eq_true rfl) (Ct.pay (rm_cmp l Z a0 hw (x + (-9223372036854775808 : Int64)) (y + (-9223372036854775808 : Int64)) h0 n0) (hw _ (List.mem_of_getElem? (i := 60) rfl)) (hw _ (List.mem_of_getElem? (i := 55) rfl)) (by decide) (by decide)) (fun _ _ _ q => q.2) (by decide) (by decide) (fun _ _ _ _ _ q => q) (pc' := 13) rfl ?_
  rintro _ _ L1 ⟨⟨⟨r, rfl, r1, r2⟩, rfl⟩, -⟩
  show Go p l e _ s m _ below meth c Z _ n0 _ _ _ _ _ 13 #[.val (.long x), .second, .val (.long y), .second] [(.int r)]
  refine Go.retI C d10_13 (by decide) (by decide) ?_
  exact ⟨⟨r, rfl, r1.trans (own_ult x y), r2.trans (own_ult y x)⟩, rfl⟩
set_option maxRecDepth 65536 in
set_option maxHeartbeats 40000000 in
theorem rm_nlz (l : Launch) (Z : State) (a0 : Array Value) (hw : ∀ d ∈ tables_1, d.before a0 Z = true) (x1 : Int32) (h0 : Heap) (n0 : Nat)  :
    Ct l Z (⟨"java/lang/Integer", "numberOfLeadingZeros", "(I)I"⟩ : MethodName) jdk_33_method_47_code 2 (some .int) [] ({ frames := 0, cells := 0, slots := 0, locals := 0 } : Room) #[.int x1] h0 n0 (fun v h => v = some (.int (Int32.ofNat (32 - own_bl (own_u x1)))) ∧ h0 = h) := by
  refine Ct.of (L0 := #[.val (.int x1), .unset]) (plainFor_of_name pn_java_lang_Integer) (fun m => by first | (simp [entryFrame, mkF, argsToLocals, Value.category]; done) | rfl) ?_
  intro p e s m below meth c C hnm
  refine Go.iloadN C d45_0 rfl (pc' := 1) rfl ?_
  refine Go.if_gt C d45_1 (by decide) (pc1 := 15) (by decide) (pc2 := 4) rfl (fun hg => ?_) (fun hg => ?_)
  · obtain ⟨hu0, hu1⟩ := own_u_pos hg
    have hb31 : own_bl (own_u x1) ≤ 31 := own_bl_top hu1
    have K73 : ∀ u n : Nat, 0 < u → u < 4 → n < 32 → own_bl (own_u x1) = own_bl u + (31 - n) → Go p l e ({ frames := 0, cells := 0, slots := 0, locals := 0 } : Room) s m #[.int x1] below meth c Z "java/lang/Integer" n0 (Bn s) (EnN s ({ frames := 0, cells := 0, slots := 0, locals := 0 } : Room) n0 (fun v h => v = some (.int (Int32.ofNat (32 - own_bl (own_u x1)))) ∧ h0 = h)) h0 0 0 73 #[.val (.int (Int32.ofNat u)), .val (.int (Int32.ofNat n))] [] := by
      intro u n h1 h2 h3 h4
      refine Go.iloadN C d45_73 rfl (pc' := 74) rfl ?_
      refine Go.iloadN C d45_74 rfl (pc' := 75) rfl ?_
      refine Go.iconst C d45_75 (v := 1) rfl (pc' := 76) rfl ?_
      refine Go.iushr C d45_76 (pc' := 77) rfl ?_
      rw [own_ushI u 1 1 (by omega) (by decide) (by decide), Nat.pow_one]
      show Go p l e ({ frames := 0, cells := 0, slots := 0, locals := 0 } : Room) s m #[.int x1] below meth c Z "java/lang/Integer" n0 (Bn s) (EnN s ({ frames := 0, cells := 0, slots := 0, locals := 0 } : Room) n0 (fun v h => v = some (.int (Int32.ofNat (32 - own_bl (own_u x1)))) ∧ h0 = h)) _ _ _ 77 #[.val (.int (Int32.ofNat u)), .val (.int (Int32.ofNat n))] [(.int (Int32.ofNat (u / 2))), (.int (Int32.ofNat n))]
      refine Go.isub C d45_77 (pc' := 78) rfl ?_
      rw [own_nlz4 n h3 u h2 h1 (by omega), ← h4]
      refine Go.retI C d45_78 (by decide) (by decide) ?_
      exact ⟨rfl, rfl⟩
    have K61 : ∀ u n : Nat, 0 < u → u < 16 → n < 32 → own_bl (own_u x1) = own_bl u + (31 - n) → Go p l e ({ frames := 0, cells := 0, slots := 0, locals := 0 } : Room) s m #[.int x1] below meth c Z "java/lang/Integer" n0 (Bn s) (EnN s ({ frames := 0, cells := 0, slots := 0, locals := 0 } : Room) n0 (fun v h => v = some (.int (Int32.ofNat (32 - own_bl (own_u x1)))) ∧ h0 = h)) h0 0 0 61 #[.val (.int (Int32.ofNat u)), .val (.int (Int32.ofNat n))] [] := by
      intro u n h1 h2 h3 h4
      refine Go.iloadN C d45_61 rfl (pc' := 62) rfl ?_
      refine Go.iconst C d45_62 (v := 4) rfl (pc' := 63) rfl ?_
      refine Go.icmp_lt C d45_63 (by decide) (pc1 := 73) (by decide) (pc2 := 66) rfl (fun hc => ?_) (fun hc => ?_)
      · exact K73 u n h1 ((own_ltI (b := 4) (by omega) (by decide)).mp hc) h3 h4
      · have hge : ¬ u < 4 := fun q => hc ((own_ltI (b := 4) (by omega) (by decide)).mpr q)
        have hpw : 2 ^ 2 ≤ u := by omega
        have hb1 := own_bl1 hpw
        have hb2 := own_bl_div hpw
        refine Go.iinc C d45_66 rfl (y := ((Int32.ofNat n) + (-2 : Int32))) rfl (L' := #[.val (.int (Int32.ofNat u)), .val (.int ((Int32.ofNat n) + (-2 : Int32)))]) rfl (pc' := 69) rfl ?_
        refine Go.iloadN C d45_69 rfl (pc' := 70) rfl ?_
        refine Go.iconst C d45_70 (v := 2) rfl (pc' := 71) rfl ?_
        refine Go.iushr C d45_71 (pc' := 72) rfl ?_
        refine Go.istoreN C d45_72 (L' := #[.val (.int ((Int32.ofNat u).toUInt32 >>> ((2 : Int32) &&& 31).toUInt32).toInt32), .val (.int ((Int32.ofNat n) + (-2 : Int32)))]) rfl (pc' := 73) rfl ?_
        rw [own_ushI u 2 2 (by omega) (by decide) (by decide), own_dec2 n h3 (by omega)]
        exact K73 (u / 2 ^ 2) (n - 2) (by omega) (by omega) (by omega) (by omega)
    have K48 : ∀ u n : Nat, 0 < u → u < 256 → n < 32 → own_bl (own_u x1) = own_bl u + (31 - n) → Go p l e ({ frames := 0, cells := 0, slots := 0, locals := 0 } : Room) s m #[.int x1] below meth c Z "java/lang/Integer" n0 (Bn s) (EnN s ({ frames := 0, cells := 0, slots := 0, locals := 0 } : Room) n0 (fun v h => v = some (.int (Int32.ofNat (32 - own_bl (own_u x1)))) ∧ h0 = h)) h0 0 0 48 #[.val (.int (Int32.ofNat u)), .val (.int (Int32.ofNat n))] [] := by
      intro u n h1 h2 h3 h4
      refine Go.iloadN C d45_48 rfl (pc' := 49) rfl ?_
      refine Go.bipush C d45_49 (v := 16) rfl (pc' := 51) rfl ?_
      refine Go.icmp_lt C d45_51 (by decide) (pc1 := 61) (by decide) (pc2 := 54) rfl (fun hc => ?_) (fun hc => ?_)
      · exact K61 u n h1 ((own_ltI (b := 16) (by omega) (by decide)).mp hc) h3 h4
      · have hge : ¬ u < 16 := fun q => hc ((own_ltI (b := 16) (by omega) (by decide)).mpr q)
        have hpw : 2 ^ 4 ≤ u := by omega
        have hb1 := own_bl1 hpw
        have hb2 := own_bl_div hpw
        refine Go.iinc C d45_54 rfl (y := ((Int32.ofNat n) + (-4 : Int32))) rfl (L' := #[.val (.int (Int32.ofNat u)), .val (.int ((Int32.ofNat n) + (-4 : Int32)))]) rfl (pc' := 57) rfl ?_
        refine Go.iloadN C d45_57 rfl (pc' := 58) rfl ?_
        refine Go.iconst C d45_58 (v := 4) rfl (pc' := 59) rfl ?_
        refine Go.iushr C d45_59 (pc' := 60) rfl ?_
        refine Go.istoreN C d45_60 (L' := #[.val (.int ((Int32.ofNat u).toUInt32 >>> ((4 : Int32) &&& 31).toUInt32).toInt32), .val (.int ((Int32.ofNat n) + (-4 : Int32)))]) rfl (pc' := 61) rfl ?_
        rw [own_ushI u 4 4 (by omega) (by decide) (by decide), own_dec4 n h3 (by omega)]
        exact K61 (u / 2 ^ 4) (n - 4) (by omega) (by omega) (by omega) (by omega)
    have K33 : ∀ u n : Nat, 0 < u → u < 65536 → n < 32 → own_bl (own_u x1) = own_bl u + (31 - n) → Go p l e ({ frames := 0, cells := 0, slots := 0, locals := 0 } : Room) s m #[.int x1] below meth c Z "java/lang/Integer" n0 (Bn s) (EnN s ({ frames := 0, cells := 0, slots := 0, locals := 0 } : Room) n0 (fun v h => v = some (.int (Int32.ofNat (32 - own_bl (own_u x1)))) ∧ h0 = h)) h0 0 0 33 #[.val (.int (Int32.ofNat u)), .val (.int (Int32.ofNat n))] [] := by
      intro u n h1 h2 h3 h4
      refine Go.iloadN C d45_33 rfl (pc' := 34) rfl ?_
      refine Go.sipush C d45_34 (v := 256) rfl (pc' := 37) rfl ?_
      refine Go.icmp_lt C d45_37 (by decide) (pc1 := 48) (by decide) (pc2 := 40) rfl (fun hc => ?_) (fun hc => ?_)
      · exact K48 u n h1 ((own_ltI (b := 256) (by omega) (by decide)).mp hc) h3 h4
      · have hge : ¬ u < 256 := fun q => hc ((own_ltI (b := 256) (by omega) (by decide)).mpr q)
        have hpw : 2 ^ 8 ≤ u := by omega
        have hb1 := own_bl1 hpw
        have hb2 := own_bl_div hpw
        refine Go.iinc C d45_40 rfl (y := ((Int32.ofNat n) + (-8 : Int32))) rfl (L' := #[.val (.int (Int32.ofNat u)), .val (.int ((Int32.ofNat n) + (-8 : Int32)))]) rfl (pc' := 43) rfl ?_
        refine Go.iloadN C d45_43 rfl (pc' := 44) rfl ?_
        refine Go.bipush C d45_44 (v := 8) rfl (pc' := 46) rfl ?_
        refine Go.iushr C d45_46 (pc' := 47) rfl ?_
        refine Go.istoreN C d45_47 (L' := #[.val (.int ((Int32.ofNat u).toUInt32 >>> ((8 : Int32) &&& 31).toUInt32).toInt32), .val (.int ((Int32.ofNat n) + (-8 : Int32)))]) rfl (pc' := 48) rfl ?_
        rw [own_ushI u 8 8 (by omega) (by decide) (by decide), own_dec8 n h3 (by omega)]
        exact K48 (u / 2 ^ 8) (n - 8) (by omega) (by omega) (by omega) (by omega)
    have K18 : ∀ u n : Nat, 0 < u → u < 2147483648 → n < 32 → own_bl (own_u x1) = own_bl u + (31 - n) → Go p l e ({ frames := 0, cells := 0, slots := 0, locals := 0 } : Room) s m #[.int x1] below meth c Z "java/lang/Integer" n0 (Bn s) (EnN s ({ frames := 0, cells := 0, slots := 0, locals := 0 } : Room) n0 (fun v h => v = some (.int (Int32.ofNat (32 - own_bl (own_u x1)))) ∧ h0 = h)) h0 0 0 18 #[.val (.int (Int32.ofNat u)), .val (.int (Int32.ofNat n))] [] := by
      intro u n h1 h2 h3 h4
      refine Go.iloadN C d45_18 rfl (pc' := 19) rfl ?_
      refine Go.ldcwInt C d45_19 (hw _ (List.mem_of_getElem? (i := 222) rfl)) (pc' := 22) rfl ?_
      refine Go.icmp_lt C d45_22 (by decide) (pc1 := 33) (by decide) (pc2 := 25) rfl (fun hc => ?_) (fun hc => ?_)
      · exact K33 u n h1 ((own_ltI (b := 65536) (by omega) (by decide)).mp hc) h3 h4
      · have hge : ¬ u < 65536 := fun q => hc ((own_ltI (b := 65536) (by omega) (by decide)).mpr q)
        have hpw : 2 ^ 16 ≤ u := by omega
        have hb1 := own_bl1 hpw
        have hb2 := own_bl_div hpw
        refine Go.iinc C d45_25 rfl (y := ((Int32.ofNat n) + (-16 : Int32))) rfl (L' := #[.val (.int (Int32.ofNat u)), .val (.int ((Int32.ofNat n) + (-16 : Int32)))]) rfl (pc' := 28) rfl ?_
        refine Go.iloadN C d45_28 rfl (pc' := 29) rfl ?_
        refine Go.bipush C d45_29 (v := 16) rfl (pc' := 31) rfl ?_
        refine Go.iushr C d45_31 (pc' := 32) rfl ?_
        refine Go.istoreN C d45_32 (L' := #[.val (.int ((Int32.ofNat u).toUInt32 >>> ((16 : Int32) &&& 31).toUInt32).toInt32), .val (.int ((Int32.ofNat n) + (-16 : Int32)))]) rfl (pc' := 33) rfl ?_
        rw [own_ushI u 16 16 (by omega) (by decide) (by decide), own_dec16 n h3 (by omega)]
        exact K33 (u / 2 ^ 16) (n - 16) (by omega) (by omega) (by omega) (by omega)
    refine Go.bipush C d45_15 (v := 31) rfl (pc' := 17) rfl ?_
    refine Go.istoreN C d45_17 (L' := #[.val (.int x1), .val (.int (31 : Int32))]) rfl (pc' := 18) rfl ?_
    have q := K18 (own_u x1) 31 hu0 (by omega) (by decide) (by omega)
    rw [own_u_of] at q; exact q
  · refine Go.iloadN C d45_4 rfl (pc' := 5) rfl ?_
    refine Go.if_ne C d45_5 (by decide) (pc1 := 13) (by decide) (pc2 := 8) rfl (fun hz => ?_) (fun hz => ?_)
    · refine Go.iconst C d45_13 (v := 0) rfl (pc' := 14) rfl ?_
      refine Go.retI C d45_14 (by decide) (by decide) ?_
      exact ⟨by rw [own_u_neg hg hz]; rfl, rfl⟩
    · refine Go.bipush C d45_8 (v := 32) rfl (pc' := 10) rfl ?_
      refine Go.goto C d45_10 (by decide) (pc' := 14) (by decide) ?_
      refine Go.retI C d45_14 (by decide) (by decide) ?_
      exact ⟨by subst hz; rfl, rfl⟩
set_option maxRecDepth 65536 in
set_option maxHeartbeats 40000000 in
theorem rm_nll (l : Launch) (Z : State) (a0 : Array Value) (hw : ∀ d ∈ tables_1, d.before a0 Z = true) (x : Int64) (h0 : Heap) (n0 : Nat)  :
    Ct l Z (⟨"java/lang/Long", "numberOfLeadingZeros", "(J)I"⟩ : MethodName) jdk_35_method_48_code 3 (some .int) [] ({ frames := 1, cells := 0, slots := 0, locals := 14 } : Room) #[.long x] h0 n0 (fun v h => v = some (.int (Int32.ofNat (64 - own_bl (own_N x)))) ∧ h0 = h) := by
  refine Ct.of (L0 := #[.val (.long x), .second, .unset]) (plainFor_of_name pn_java_lang_Long) (fun m => by first | (simp [entryFrame, mkF, argsToLocals, Value.category]; done) | rfl) ?_
  intro p e s m below meth c C hnm
  have hb := own_bl64 (own_N x) (own_N_lt x)
  refine Go.lloadN C d44_0 rfl (pc' := 1) rfl ?_
  refine Go.bipush C d44_1 (v := 32) rfl (pc' := 3) rfl ?_
  refine Go.lushr C d44_3 (pc' := 4) rfl ?_
  refine Go.l2i C d44_4 (pc' := 5) rfl ?_
  refine Go.istoreN C d44_5 (L' := #[.val (.long x), .second, .val (.int (x.toUInt64 >>> ((32 : Int32) &&& 0x3f).toInt64.toUInt64).toInt64.toInt32)]) rfl (pc' := 6) rfl ?_
  refine Go.iloadN C d44_6 rfl (pc' := 7) rfl ?_
  refine Go.if_ne C d44_7 (by decide) (pc1 := 21) (by decide) (pc2 := 10) rfl (fun hc => ?_) (fun hc => ?_)
  · have h0' : own_N x / 2 ^ 32 ≠ 0 := fun q => hc (by rw [← own_u_of (x.toUInt64 >>> ((32 : Int32) &&& 0x3f).toInt64.toUInt64).toInt64.toInt32, own_u_hi, q]; rfl)
    refine Go.iloadN C d44_21 rfl (pc' := 22) rfl ?_
    refine Go.callS C d44_22 (hw _ (List.mem_of_getElem? (i := 218) rfl)) (hw _ (List.mem_of_getElem? (i := 219) rfl)) (hw _ (List.mem_of_getElem? (i := 220) rfl)) (hw _ (List.mem_of_getElem? (i := 221) rfl)) (by decide) (argsL := [(.int (x.toUInt64 >>> ((32 : Int32) &&& 0x3f).toInt64.toUInt64).toInt64.toInt32)]) (rest := []) rfl (lenOf pd__I_I rfl) rfl (W := 0) (Nat.le_of_ble_eq_true rfl) (Ct.pay (rm_nlz l Z a0 hw (x.toUInt64 >>> ((32 : Int32) &&& 0x3f).toInt64.toUInt64).toInt64.toInt32 h0 n0) (hw _ (List.mem_of_getElem? (i := 221) rfl)) (hw _ (List.mem_of_getElem? (i := 220) rfl)) (by decide) (by decide)) (fun _ _ _ q => q.2) (by decide) (by decide) (fun _ _ _ _ _ q => q) (pc' := 25) rfl ?_
    rintro _ _ L1 ⟨⟨rfl, rfl⟩, -⟩
    show Go p l e _ s m _ below meth c Z _ n0 _ _ _ _ _ 25 #[.val (.long x), .second, .val (.int (x.toUInt64 >>> ((32 : Int32) &&& 0x3f).toInt64.toUInt64).toInt64.toInt32)] [(.int (Int32.ofNat (32 - own_bl (own_u (x.toUInt64 >>> ((32 : Int32) &&& 0x3f).toInt64.toUInt64).toInt64.toInt32))))]
    refine Go.retI C d44_25 (by decide) (by decide) ?_
    refine ⟨?_, rfl⟩
    rw [own_u_hi, hb.2 h0', show 64 - (own_bl (own_N x / 2 ^ 32) + 32) = 32 - own_bl (own_N x / 2 ^ 32) by omega]
  · have h0' : own_N x / 2 ^ 32 = 0 := by rw [← own_u_hi, hc]; rfl
    refine Go.bipush C d44_10 (v := 32) rfl (pc' := 12) rfl ?_
    refine Go.lloadN C d44_12 rfl (pc' := 13) rfl ?_
    refine Go.l2i C d44_13 (pc' := 14) rfl ?_
    refine Go.callS C d44_14 (hw _ (List.mem_of_getElem? (i := 218) rfl)) (hw _ (List.mem_of_getElem? (i := 219) rfl)) (hw _ (List.mem_of_getElem? (i := 220) rfl)) (hw _ (List.mem_of_getElem? (i := 221) rfl)) (by decide) (argsL := [(.int x.toInt32)]) (rest := [(.int (32 : Int32))]) rfl (lenOf pd__I_I rfl) rfl (W := 1) (Nat.le_of_ble_eq_true rfl) (Ct.pay (rm_nlz l Z a0 hw x.toInt32 h0 n0) (hw _ (List.mem_of_getElem? (i := 221) rfl)) (hw _ (List.mem_of_getElem? (i := 220) rfl)) (by decide) (by decide)) (fun _ _ _ q => q.2) (by decide) (by decide) (fun _ _ _ _ _ q => q) (pc' := 17) rfl ?_
    rintro _ _ L1 ⟨⟨rfl, rfl⟩, -⟩
    show Go p l e _ s m _ below meth c Z _ n0 _ _ _ _ _ 17 #[.val (.long x), .second, .val (.int (x.toUInt64 >>> ((32 : Int32) &&& 0x3f).toInt64.toUInt64).toInt64.toInt32)] [(.int (Int32.ofNat (32 - own_bl (own_u x.toInt32)))), (.int (32 : Int32))]
    have hbl := own_bl_top (n := 32) (own_u_lt x.toInt32)
    refine Go.iadd C d44_17 (pc' := 18) rfl ?_
    refine Go.goto C d44_18 (by decide) (pc' := 25) (by decide) ?_
    rw [own_32a _ (Nat.lt_succ_of_le hbl)]
    refine Go.retI C d44_25 (by decide) (by decide) ?_
    exact ⟨by rw [hb.1 h0', own_u_lo], rfl⟩
set_option maxRecDepth 65536 in
set_option maxHeartbeats 40000000 in
theorem rm_max (l : Launch) (Z : State) (a0 : Array Value) (hw : ∀ d ∈ tables_1, d.before a0 Z = true) (b : Nat) (h0 : Heap) (n0 : Nat) (hb : b < 65) :
    Ct l Z (⟨"java/lang/Math", "max", "(II)I"⟩ : MethodName) jdk_29_method_65_code 2 (some .int) [] ({ frames := 0, cells := 0, slots := 0, locals := 0 } : Room) #[.int 1, .int (Int32.ofNat ((b + 7) / 8))] h0 n0 (fun v h => v = some (.int (Int32.ofNat (max 1 ((b + 7) / 8)))) ∧ h0 = h) := by
  refine Ct.of (L0 := #[.val (.int (1 : Int32)), .val (.int (Int32.ofNat ((b + 7) / 8)))]) (Jvm.Free.JP.mathPlain rfl (by decide +kernel)) (fun m => by first | (simp [entryFrame, mkF, argsToLocals, Value.category]; done) | rfl) ?_
  intro p e s m below meth c C hnm
  refine Go.iloadN C d46_0 rfl (pc' := 1) rfl ?_
  refine Go.iloadN C d46_1 rfl (pc' := 2) rfl ?_
  refine Go.icmp_lt C d46_2 (by decide) (pc1 := 9) (by decide) (pc2 := 5) rfl (fun hc => ?_) (fun hc => ?_)
  · refine Go.iloadN C d46_9 rfl (pc' := 10) rfl ?_
    refine Go.retI C d46_10 (by decide) (by decide) ?_
    exact ⟨by rw [(own_max1 b hb).1 hc], rfl⟩
  · refine Go.iloadN C d46_5 rfl (pc' := 6) rfl ?_
    refine Go.goto C d46_6 (by decide) (pc' := 10) (by decide) ?_
    refine Go.retI C d46_10 (by decide) (by decide) ?_
    exact ⟨by rw [(own_max1 b hb).2 hc], rfl⟩
set_option maxRecDepth 65536 in
set_option maxHeartbeats 40000000 in
theorem rm_bl (l : Launch) (Z : State) (a0 : Array Value) (hw : ∀ d ∈ tables_1, d.before a0 Z = true) (x : Int64) (h0 : Heap) (n0 : Nat)  :
    Ct l Z (⟨"com/example/patterns_to_partitions/patternstopartitions/key/UintKey", "byteLength", "(J)I"⟩ : MethodName) prog_26_method_5_code 3 (some .int) [] ({ frames := 2, cells := 0, slots := 0, locals := 29 } : Room) #[.long x] h0 n0 (fun v h => v = some (.int (Int32.ofNat (own_L (own_N x)))) ∧ h0 = h) := by
  refine Ct.of (L0 := #[.val (.long x), .second, .unset]) (plainFor_of_name pn_com_example_patterns_to_partitions_patternstopartitions_key_UintKey) (fun m => by first | (simp [entryFrame, mkF, argsToLocals, Value.category]; done) | rfl) ?_
  intro p e s m below meth c C hnm
  have hb : own_bl (own_N x) < 65 := Nat.lt_succ_of_le (own_bl_top (own_N_lt x))
  refine Go.bipush C d43_0 (v := 64) rfl (pc' := 2) rfl ?_
  refine Go.lloadN C d43_2 rfl (pc' := 3) rfl ?_
  refine Go.callS C d43_3 (hw _ (List.mem_of_getElem? (i := 215) rfl)) (hw _ (List.mem_of_getElem? (i := 216) rfl)) (hw _ (List.mem_of_getElem? (i := 55) rfl)) (hw _ (List.mem_of_getElem? (i := 217) rfl)) (by decide) (argsL := [(.long x)]) (rest := [(.int (64 : Int32))]) rfl (lenOf pd__J_I rfl) rfl (W := 1) (Nat.le_of_ble_eq_true rfl) (Ct.pay (rm_nll l Z a0 hw x h0 n0) (hw _ (List.mem_of_getElem? (i := 217) rfl)) (hw _ (List.mem_of_getElem? (i := 55) rfl)) (by decide) (by decide)) (fun _ _ _ q => q.2) (by decide) (by decide) (fun _ _ _ _ _ q => q) (pc' := 6) rfl ?_
  rintro _ _ L1 ⟨⟨rfl, rfl⟩, -⟩
  show Go p l e _ s m _ below meth c Z _ n0 _ _ _ _ _ 6 #[.val (.long x), .second, .unset] [(.int (Int32.ofNat (64 - own_bl (own_N x)))), (.int (64 : Int32))]
  refine Go.isub C d43_6 (pc' := 7) rfl ?_
  refine Go.istoreN C d43_7 (L' := #[.val (.long x), .second, .val (.int ((64 : Int32) - (Int32.ofNat (64 - own_bl (own_N x)))))]) rfl (pc' := 8) rfl ?_
  refine Go.iconst C d43_8 (v := 1) rfl (pc' := 9) rfl ?_
  refine Go.iloadN C d43_9 rfl (pc' := 10) rfl ?_
  refine Go.bipush C d43_10 (v := 7) rfl (pc' := 12) rfl ?_
  refine Go.iadd C d43_12 (pc' := 13) rfl ?_
  refine Go.bipush C d43_13 (v := 8) rfl (pc' := 15) rfl ?_
  refine Go.idiv C d43_15 (by decide) (pc' := 16) rfl ?_
  rw [own_s64 _ hb]
  show Go p l e _ s m _ below meth c Z _ n0 _ _ _ _ _ 16 #[.val (.long x), .second, .val (.int ((64 : Int32) - (Int32.ofNat (64 - own_bl (own_N x)))))] [(.int (Int32.ofNat ((own_bl (own_N x) + 7) / 8))), (.int (1 : Int32))]
  refine Go.callS C d43_16 (hw _ (List.mem_of_getElem? (i := 223) rfl)) (hw _ (List.mem_of_getElem? (i := 224) rfl)) (hw _ (List.mem_of_getElem? (i := 161) rfl)) (hw _ (List.mem_of_getElem? (i := 225) rfl)) (by decide) (argsL := [(.int (1 : Int32)), (.int (Int32.ofNat ((own_bl (own_N x) + 7) / 8)))]) (rest := []) rfl (lenOf pd__II_I rfl) rfl (W := 0) (Nat.le_of_ble_eq_true rfl) (Ct.pay (rm_max l Z a0 hw (own_bl (own_N x)) h0 n0 hb) (hw _ (List.mem_of_getElem? (i := 225) rfl)) (hw _ (List.mem_of_getElem? (i := 161) rfl)) (by decide) (by decide)) (fun _ _ _ q => q.2) (by decide) (by decide) (fun _ _ _ _ _ q => q) (pc' := 19) rfl ?_
  rintro _ _ L2 ⟨⟨rfl, rfl⟩, -⟩
  show Go p l e _ s m _ below meth c Z _ n0 _ _ _ _ _ 19 #[.val (.long x), .second, .val (.int ((64 : Int32) - (Int32.ofNat (64 - own_bl (own_N x)))))] [(.int (Int32.ofNat (max 1 ((own_bl (own_N x) + 7) / 8))))]
  refine Go.retI C d43_19 (by decide) (by decide) ?_
  exact ⟨rfl, rfl⟩
set_option maxRecDepth 65536 in
set_option maxHeartbeats 40000000 in
theorem rm_enc (l : Launch) (Z : State) (a0 : Array Value) (hw : ∀ d ∈ tables_1, d.before a0 Z = true) (T : own_T) (v : Int64) (z : Int32) (h0 : Heap) (n0 : Nat) (Z0 : n0 ≤ h0.size) (H : own_H Z T) (St : Sta Z Z.heap "java/lang/String" "COMPACT_STRINGS" "Z" (.int z)) (hz : ¬ z = 0) (O0 : Old Z n0 h0) :
    CtW l Z [] [] (⟨"com/example/patterns_to_partitions/patternstopartitions/key/UintKey", "encode", "(J)Ljava/lang/String;"⟩ : MethodName) prog_26_method_2_code 7 (some (.object "java/lang/String")) [] ({ frames := 6, cells := 6, slots := 64, locals := 91 } : Room) #[.long v] h0 n0 (fun v' h => ∃ a t kt, v' = some (.ref a) ∧ Keep h0 h [] ∧ Str Z h a t kt (own_cs (own_key (own_N v) (v - 251)))) := by
  refine CtW.of (L0 := #[.val (.long v), .second, .unset, .unset, .unset, .unset, .unset]) (plainFor_of_name pn_com_example_patterns_to_partitions_patternstopartitions_key_UintKey) (fun m => by first | (simp [entryFrame, mkF, argsToLocals, Value.category]; done) | rfl) ?_
  intro p e s m below meth c C hnm
  have hEL := own_ew (Z := Z) (a0 := a0) hw
  refine Go.newO C bw0N d7_0 (hw _ (List.mem_of_getElem? (i := 34) rfl)) (hw _ (List.mem_of_getElem? (i := 35) rfl)) (hw _ (List.mem_of_getElem? (i := 36) rfl)) (by decide) (by decide) (pc' := 3) rfl ?_
  intro h1 E1 A1 D1 U1
  obtain ⟨sa, e_sa⟩ : ∃ a, a = h0.size := ⟨_, rfl⟩
  rw [← e_sa] at A1 D1 U1 ⊢
  show Go p l e ({ frames := 6, cells := 6, slots := 64, locals := 91 } : Room) s m #[.long v] below meth c Z "com/example/patterns_to_partitions/patternstopartitions/key/UintKey" n0 _ (EnW s ({ frames := 6, cells := 6, slots := 64, locals := 91 } : Room) n0 Z [] (fun v' h => ∃ a t kt, v' = some (.ref a) ∧ Keep h0 h [] ∧ Str Z h a t kt (own_cs (own_key (own_N v) (v - 251))))) _ _ _ 3 #[.val (.long v), .second, .unset, .unset, .unset, .unset, .unset] [(.ref sa)]
  have na : n0 ≤ sa := e_sa ▸ Z0
  have O1 := O0.ext E1
  have Fvalue := D1 (Or.inl (hw _ (List.mem_of_getElem? (i := 49) rfl))) (ty := (.array .byte)) (by decide)
  have Fcoder := D1 (Or.inl (hw _ (List.mem_of_getElem? (i := 51) rfl))) (ty := .byte) (by decide)
  have Fcount := D1 (Or.inl (hw _ (List.mem_of_getElem? (i := 103) rfl))) (ty := .int) (by decide)
  refine Go.dup C d7_3 rfl (pc' := 4) rfl ?_
  refine Go.bipush C d7_4 (v := 20) rfl (pc' := 6) rfl ?_
  refine Go.callN C d7_6 rfl (hw _ (List.mem_of_getElem? (i := 37) rfl)) (hw _ (List.mem_of_getElem? (i := 38) rfl)) (hw _ (List.mem_of_getElem? (i := 39) rfl)) (by decide) (argsL := [(.int (20 : Int32))]) (rest := [(.ref sa)]) rfl (lenOf pd__I_V rfl) rfl (W := 1) (Nat.le_of_ble_eq_true rfl) (Ct.pay (rm_in2 l Z a0 hw sa _ _ z h1 n0 na (Nat.le_trans Z0 E1.1) A1 Fvalue Fcoder Fcount St hz O1) (hw _ (List.mem_of_getElem? (i := 39) rfl)) (hw _ (List.mem_of_getElem? (i := 36) rfl)) (by decide) (by decide)) (fun _ _ _ q => q.2) (by decide) (by decide) (fun _ _ _ _ q b => by obtain ⟨⟨_, _, _, _, K, _⟩, _⟩ := q; exact Bw.any K b) (pc' := 9) rfl ?_
  rintro _ h2 L1 ⟨⟨rfl, ba, kb, hba, K2, B2⟩, -⟩
  show Go p l e ({ frames := 6, cells := 6, slots := 64, locals := 91 } : Room) s m #[.long v] below meth c Z "com/example/patterns_to_partitions/patternstopartitions/key/UintKey" n0 _ (EnW s ({ frames := 6, cells := 6, slots := 64, locals := 91 } : Room) n0 Z [] (fun v' h => ∃ a t kt, v' = some (.ref a) ∧ Keep h0 h [] ∧ Str Z h a t kt (own_cs (own_key (own_N v) (v - 251))))) _ _ _ 9 #[.val (.long v), .second, .unset, .unset, .unset, .unset, .unset] [(.ref sa)]
  have nb : n0 ≤ ba := Nat.le_trans Z0 (Nat.le_trans E1.1 hba)
  have O2 := O1.keep K2 (allS na all0)
  have Z2 : n0 ≤ h2.size := Nat.le_trans Z0 (Nat.le_trans E1.1 K2.1)
  have hkl := own_key_len (own_N v) (v - 251)
  have hk5 := own_key_lt (own_N v) (v - 251)
  have hLs := own_L_spec (own_N_lt (v - 251))
  have sab : ∀ x ∈ [sa, ba], x ∈ ([] : List Addr) ∨ h0.size ≤ x := allS (Or.inr (Nat.le_of_eq e_sa.symm)) (allS (Or.inr (Nat.le_trans E1.1 hba)) all0)
  have K124 : ∀ h X3 X4 X5 X6, own_B Z h sa ba kb (own_cs (own_key (own_N v) (v - 251))) → Keep h2 h [sa, ba] → Go p l e ({ frames := 6, cells := 6, slots := 64, locals := 91 } : Room) s m #[.long v] below meth c Z "com/example/patterns_to_partitions/patternstopartitions/key/UintKey" n0 (BwX s Z [] [] (LV Z "java/util/HexFormat" 90)) (EnW s ({ frames := 6, cells := 6, slots := 64, locals := 91 } : Room) n0 Z [] (fun v' h => ∃ a t kt, v' = some (.ref a) ∧ Keep h0 h [] ∧ Str Z h a t kt (own_cs (own_key (own_N v) (v - 251))))) h 4 40 124 #[.val (.long v), .second, .val (.ref sa), X3, X4, X5, X6] [] := by
    intro h3 X3 X4 X5 X6 B3 K3
    have O3 := O2.keep K3 (allS na (allS nb all0))
    refine Go.aloadN C d7_124 rfl rfl (pc' := 125) rfl ?_
    refine Go.callV C d7_125 (hw _ (List.mem_of_getElem? (i := 123) rfl)) (hw _ (List.mem_of_getElem? (i := 124) rfl)) (hw _ (List.mem_of_getElem? (i := 126) rfl)) (hw _ (List.mem_of_getElem? (i := 125) rfl)) (fun st hZ => notFace_of_selects (args := #[]) (mvT hZ (hw _ (List.mem_of_getElem? (i := 126) rfl)))) (by decide) B3.1 (argsL := []) (rest := []) rfl (lenOf pd___Ljava_lang_String_ rfl) rfl (W := 0) (Nat.le_of_ble_eq_true rfl) (Ct.pay (rm_tos l Z a0 hw sa ba kb (own_cs (own_key (own_N v) (v - 251))) z h3 n0 (Nat.le_trans Z2 K3.1) B3 (by rw [own_cs_len]; omega) (own_cs_r _ hk5) St hz O3) (hw _ (List.mem_of_getElem? (i := 127) rfl)) (hw _ (List.mem_of_getElem? (i := 36) rfl)) (by decide) (by decide)) (fun _ _ _ q => q.2) (by decide) (by decide) (fun _ _ _ _ q b => by obtain ⟨⟨_, _, _, _, K, _⟩, _⟩ := q; exact BwX.any K b) (pc' := 128) rfl ?_
    rintro _ h4 L9 ⟨⟨xa, t, kt, rfl, K4, S4⟩, -⟩
    show Go p l e ({ frames := 6, cells := 6, slots := 64, locals := 91 } : Room) s m #[.long v] below meth c Z "com/example/patterns_to_partitions/patternstopartitions/key/UintKey" n0 _ (EnW s ({ frames := 6, cells := 6, slots := 64, locals := 91 } : Room) n0 Z [] (fun v' h => ∃ a t kt, v' = some (.ref a) ∧ Keep h0 h [] ∧ Str Z h a t kt (own_cs (own_key (own_N v) (v - 251))))) _ _ _ 128 #[.val (.long v), .second, .val (.ref sa), X3, X4, X5, X6] [(.ref xa)]
    refine Go.bs (Bs' := (Bw s Z [] [])) (fun _ b => b.1) ?_
    refine Go.retAW C hEL rfl d7_128 rfl (by decide) (by decide) ?_
    exact ⟨xa, t, kt, rfl, ((((Keep.refl h0 []).ext E1).trans K2 (allS (Or.inr (Nat.le_of_eq e_sa.symm)) all0)).trans K3 sab).trans K4 all0, S4⟩
  have K99 : ∀ n, n ≤ 8 → ∀ h bs, own_B Z h sa ba kb (own_cs bs) → bs ++ own_fe (own_N (v - 251)) n = (own_key (own_N v) (v - 251)) → Keep h2 h [sa, ba] → Go p l e ({ frames := 6, cells := 6, slots := 64, locals := 91 } : Room) s m #[.long v] below meth c Z "com/example/patterns_to_partitions/patternstopartitions/key/UintKey" n0 (BwX s Z [] [] (LV Z "java/util/HexFormat" 90)) (EnW s ({ frames := 6, cells := 6, slots := 64, locals := 91 } : Room) n0 Z [] (fun v' h => ∃ a t kt, v' = some (.ref a) ∧ Keep h0 h [] ∧ Str Z h a t kt (own_cs (own_key (own_N v) (v - 251))))) h 4 40 99 #[.val (.long v), .second, .val (.ref sa), .val (.long (v - (251 : Int64))), .second, .val (.int (Int32.ofNat (own_L (own_N (v - (251 : Int64)))))), .val (.int (Int32.ofNat (8 * n) - 8))] [] := by
    intro n
    induction n with
    | zero =>
      intro _ h3 bs B3 e3 K3
      have e4 : bs = (own_key (own_N v) (v - 251)) := by rw [← e3, own_fe, List.append_nil]
      refine Go.iload C d7_99 rfl (pc' := 101) rfl ?_
      refine Go.if_lt_t C d7_101 own_s3 (by decide) (pc' := 124) (by decide) ?_
      exact K124 h3 _ _ _ _ (e4 ▸ B3) K3
    | succ n ih =>
      intro hn h3 bs B3 e3 K3
      have O3 := O2.keep K3 (allS na (allS nb all0))
      have hln : bs.length + (n + 1) ≤ 10 := by rw [← e3, List.length_append, own_fe_len] at hkl; exact hkl
      rw [own_s1 n (by omega)]
      have hq : own_N (v - 251) / 256 ^ n % 256 < 256 := Nat.mod_lt _ (by decide)
      refine Go.iload C d7_99 rfl (pc' := 101) rfl ?_
      refine Go.if_lt_f C d7_101 (own_s4 n (by omega)) (pc' := 104) rfl ?_
      refine Go.getS C d7_104 (hw _ (List.mem_of_getElem? (i := 61) rfl)) Via.refl (H.1.ext O3.2) (pc' := 107) rfl ?_
      refine Go.aloadN C d7_107 rfl rfl (pc' := 108) rfl ?_
      refine Go.lloadN C d7_108 rfl (pc' := 109) rfl ?_
      refine Go.iload C d7_109 rfl (pc' := 111) rfl ?_
      refine Go.lushr C d7_111 (pc' := 112) rfl ?_
      refine Go.l2i C d7_112 (pc' := 113) rfl ?_
      refine Go.i2b C d7_113 (pc' := 114) rfl ?_
      rw [own_shb (v - 251) n (by omega)]
      show Go p l e ({ frames := 6, cells := 6, slots := 64, locals := 91 } : Room) s m #[.long v] below meth c Z "com/example/patterns_to_partitions/patternstopartitions/key/UintKey" n0 _ (EnW s ({ frames := 6, cells := 6, slots := 64, locals := 91 } : Room) n0 Z [] (fun v' h => ∃ a t kt, v' = some (.ref a) ∧ Keep h0 h [] ∧ Str Z h a t kt (own_cs (own_key (own_N v) (v - 251))))) _ _ _ 114 #[.val (.long v), .second, .val (.ref sa), .val (.long (v - (251 : Int64))), .second, .val (.int (Int32.ofNat (own_L (own_N (v - (251 : Int64)))))), .val (.int (Int32.ofNat (8 * n)))] [(.int (own_sb (own_N (v - 251) / 256 ^ n % 256))), (.ref sa), (.ref T.1)]
      refine Go.callVP C d7_114 (hw _ (List.mem_of_getElem? (i := 63) rfl)) (hw _ (List.mem_of_getElem? (i := 64) rfl)) (hw _ (List.mem_of_getElem? (i := 66) rfl)) (hw _ (List.mem_of_getElem? (i := 65) rfl)) (fun st hZ => notFace_of_selects (args := #[]) (mvT hZ (hw _ (List.mem_of_getElem? (i := 66) rfl)))) (by decide) (H.2.1.ext O3.2) (argsL := [(.ref sa), (.int (own_sb (own_N (v - 251) / 256 ^ n % 256)))]) (rest := []) rfl (lenOf pd__Ljava_lang_Appendable_B_Ljava_lang_Appendable_ rfl) rfl (W := 0) (Nat.le_of_ble_eq_true rfl) (X := (LV Z "java/util/HexFormat" 90)) (Y := (LV Z "java/util/HexFormat" 90)) (CtPH.pay (fun s _ _ W q => LV.stays (s := s) q W) (rm_hex2 l Z a0 hw T sa ba kb (own_cs bs) (own_N (v - 251) / 256 ^ n % 256) z h3 n0 B3 (by omega) (by rw [own_cs_len]; omega) na nb H St hz O3) hEL (hw _ (List.mem_of_getElem? (i := 68) rfl)) (hw _ (List.mem_of_getElem? (i := 67) rfl)) (by decide) (by decide)) (by simp) (fun _ q => q) (fun s _ _ W q _ => LV.stays (s := s) q W) (fun _ _ _ q => q.2) (by decide) (by decide) (pc' := 117) rfl ?_
      rintro _ h4 L5 ⟨⟨rfl, K4, B4⟩, -⟩ -
      have K5 : Keep h2 h4 [sa, ba] := K3.trans K4 (fun x hx => Or.inl hx)
      rw [← own_cs_app] at B4
      refine Go.pop C d7_117 rfl (pc' := 118) rfl ?_
      refine Go.iinc C d7_118 rfl (y := ((Int32.ofNat (8 * n)) + (-8 : Int32))) rfl (L' := #[.val (.long v), .second, .val (.ref sa), .val (.long (v - (251 : Int64))), .second, .val (.int (Int32.ofNat (own_L (own_N (v - (251 : Int64)))))), .val (.int ((Int32.ofNat (8 * n)) + (-8 : Int32)))]) rfl (pc' := 121) rfl ?_
      refine Go.goto C d7_121 (by decide) (pc' := 99) (by decide) ?_
      rw [own_s2 n (by omega)]
      exact ih (by omega) h4 _ B4 (by rw [← e3, own_fe, List.append_assoc]; rfl) K5
  refine Go.astoreN C d7_9 rfl (L' := #[.val (.long v), .second, .val (.ref sa), .unset, .unset, .unset, .unset]) rfl (pc' := 10) rfl ?_
  refine Go.lloadN C d7_10 rfl (pc' := 11) rfl ?_
  refine Go.ldc2Long C d7_11 (hw _ (List.mem_of_getElem? (i := 52) rfl)) (pc' := 14) rfl ?_
  refine Go.callS C d7_14 (hw _ (List.mem_of_getElem? (i := 53) rfl)) (hw _ (List.mem_of_getElem? (i := 54) rfl)) (hw _ (List.mem_of_getElem? (i := 55) rfl)) (hw _ (List.mem_of_getElem? (i := 56) rfl)) (by decide) (argsL := [(.long v), (.long (251 : Int64))]) (rest := []) rfl (lenOf pd__JJ_I rfl) rfl (W := 0) (Nat.le_of_ble_eq_true rfl) (Ct.pay (rm_cmu l Z a0 hw v 251 h2 n0) (hw _ (List.mem_of_getElem? (i := 56) rfl)) (hw _ (List.mem_of_getElem? (i := 55) rfl)) (by decide) (by decide)) (fun _ _ _ q => q.2) (by decide) (by decide) (fun _ _ _ _ q b => by obtain ⟨⟨_, rfl⟩, _⟩ := q; exact b) (pc' := 17) rfl ?_
  rintro _ _ L2 ⟨⟨⟨r, rfl, r1, -⟩, rfl⟩, -⟩
  show Go p l e ({ frames := 6, cells := 6, slots := 64, locals := 91 } : Room) s m #[.long v] below meth c Z "com/example/patterns_to_partitions/patternstopartitions/key/UintKey" n0 _ (EnW s ({ frames := 6, cells := 6, slots := 64, locals := 91 } : Room) n0 Z [] (fun v' h => ∃ a t kt, v' = some (.ref a) ∧ Keep h0 h [] ∧ Str Z h a t kt (own_cs (own_key (own_N v) (v - 251))))) _ _ _ 17 #[.val (.long v), .second, .val (.ref sa), .unset, .unset, .unset, .unset] [(.int r)]
  rw [own_N251] at r1
  refine Go.bs (Bs' := BwX s Z [] [] TV) (fun _ b => ⟨b, trivial⟩) ?_
  refine Go.if_ge C d7_17 (by decide) (pc1 := 34) (by decide) (pc2 := 20) rfl (fun hc => ?_) (fun hc => ?_)
  · have hv : ¬ own_N v < 251 := fun q => hc (r1.mpr q)
    refine Go.lloadN C d7_34 rfl (pc' := 35) rfl ?_
    refine Go.ldc2Long C d7_35 (hw _ (List.mem_of_getElem? (i := 52) rfl)) (pc' := 38) rfl ?_
    refine Go.lsub C d7_38 (pc' := 39) rfl ?_
    refine Go.lstoreN C d7_39 (L' := #[.val (.long v), .second, .val (.ref sa), .val (.long (v - (251 : Int64))), .second, .unset, .unset]) rfl (pc' := 40) rfl ?_
    refine Go.lloadN C d7_40 rfl (pc' := 41) rfl ?_
    refine Go.callS C d7_41 (hw _ (List.mem_of_getElem? (i := 212) rfl)) (hw _ (List.mem_of_getElem? (i := 213) rfl)) (hw _ (List.mem_of_getElem? (i := 32) rfl)) (hw _ (List.mem_of_getElem? (i := 214) rfl)) (by decide) (argsL := [(.long (v - (251 : Int64)))]) (rest := []) rfl (lenOf pd__J_I rfl) rfl (W := 0) (Nat.le_of_ble_eq_true rfl) (Ct.pay (rm_bl l Z a0 hw (v - 251) h2 n0) (hw _ (List.mem_of_getElem? (i := 214) rfl)) (hw _ (List.mem_of_getElem? (i := 32) rfl)) (by decide) (by decide)) (fun _ _ _ q => q.2) (by decide) (by decide) (fun _ _ _ _ q b => by obtain ⟨⟨_, rfl⟩, _⟩ := q; exact b) (pc' := 44) rfl ?_
    rintro _ _ L3 ⟨⟨rfl, rfl⟩, -⟩
    show Go p l e ({ frames := 6, cells := 6, slots := 64, locals := 91 } : Room) s m #[.long v] below meth c Z "com/example/patterns_to_partitions/patternstopartitions/key/UintKey" n0 _ (EnW s ({ frames := 6, cells := 6, slots := 64, locals := 91 } : Room) n0 Z [] (fun v' h => ∃ a t kt, v' = some (.ref a) ∧ Keep h0 h [] ∧ Str Z h a t kt (own_cs (own_key (own_N v) (v - 251))))) _ _ _ 44 #[.val (.long v), .second, .val (.ref sa), .val (.long (v - (251 : Int64))), .second, .unset, .unset] [(.int (Int32.ofNat (own_L (own_N (v - (251 : Int64))))))]
    refine Go.istore C d7_44 (L' := #[.val (.long v), .second, .val (.ref sa), .val (.long (v - (251 : Int64))), .second, .val (.int (Int32.ofNat (own_L (own_N (v - (251 : Int64)))))), .unset]) rfl (pc' := 46) rfl ?_
    refine Go.iload C d7_46 rfl (pc' := 48) rfl ?_
    refine Go.iconst C d7_48 (v := 4) rfl (pc' := 49) rfl ?_
    refine Go.icmp_gt C d7_49 (by decide) (pc1 := 70) (by decide) (pc2 := 52) rfl (fun hd => ?_) (fun hd => ?_)
    · have hL4 : ¬ (own_L (own_N (v - 251))) ≤ 4 := fun q => absurd ((own_gt4 _ (by omega)).mp hd) (Nat.not_lt.mpr q)
      refine Go.getS C d7_70 (hw _ (List.mem_of_getElem? (i := 61) rfl)) Via.refl (H.1.ext O2.2) (pc' := 73) rfl ?_
      refine Go.aloadN C d7_73 rfl rfl (pc' := 74) rfl ?_
      refine Go.iconst C d7_74 (v := -1) rfl (pc' := 75) rfl ?_
      rw [own_m1]
      show Go p l e ({ frames := 6, cells := 6, slots := 64, locals := 91 } : Room) s m #[.long v] below meth c Z "com/example/patterns_to_partitions/patternstopartitions/key/UintKey" n0 _ (EnW s ({ frames := 6, cells := 6, slots := 64, locals := 91 } : Room) n0 Z [] (fun v' h => ∃ a t kt, v' = some (.ref a) ∧ Keep h0 h [] ∧ Str Z h a t kt (own_cs (own_key (own_N v) (v - 251))))) _ _ _ 75 #[.val (.long v), .second, .val (.ref sa), .val (.long (v - (251 : Int64))), .second, .val (.int (Int32.ofNat (own_L (own_N (v - (251 : Int64)))))), .unset] [(.int (own_sb 255)), (.ref sa), (.ref T.1)]
      refine Go.callVP C d7_75 (hw _ (List.mem_of_getElem? (i := 63) rfl)) (hw _ (List.mem_of_getElem? (i := 64) rfl)) (hw _ (List.mem_of_getElem? (i := 66) rfl)) (hw _ (List.mem_of_getElem? (i := 65) rfl)) (fun st hZ => notFace_of_selects (args := #[]) (mvT hZ (hw _ (List.mem_of_getElem? (i := 66) rfl)))) (by decide) (H.2.1.ext O2.2) (argsL := [(.ref sa), (.int (own_sb 255))]) (rest := []) rfl (lenOf pd__Ljava_lang_Appendable_B_Ljava_lang_Appendable_ rfl) rfl (W := 0) (Nat.le_of_ble_eq_true rfl) (X := TV) (Y := (LV Z "java/util/HexFormat" 90)) (CtPH.pay (fun _ _ _ _ _ => trivial) (rm_hex1 l Z a0 hw T sa ba kb [] 255 z h2 n0 B2 (by omega) (by decide) na nb H St hz O2) hEL (hw _ (List.mem_of_getElem? (i := 68) rfl)) (hw _ (List.mem_of_getElem? (i := 67) rfl)) (by decide) (by decide)) (by simp) (fun _ q => q) (fun _ _ _ _ _ q => q) (fun _ _ _ q => q.2) (by decide) (by decide) (pc' := 78) rfl ?_
      rintro _ h3 L4 ⟨⟨rfl, K3, B3⟩, -⟩ -
      show Go p l e ({ frames := 6, cells := 6, slots := 64, locals := 91 } : Room) s m #[.long v] below meth c Z "com/example/patterns_to_partitions/patternstopartitions/key/UintKey" n0 _ (EnW s ({ frames := 6, cells := 6, slots := 64, locals := 91 } : Room) n0 Z [] (fun v' h => ∃ a t kt, v' = some (.ref a) ∧ Keep h0 h [] ∧ Str Z h a t kt (own_cs (own_key (own_N v) (v - 251))))) _ _ _ 78 #[.val (.long v), .second, .val (.ref sa), .val (.long (v - (251 : Int64))), .second, .val (.int (Int32.ofNat (own_L (own_N (v - (251 : Int64)))))), .unset] [(.ref sa)]
      have O3 := O2.keep K3 (allS na (allS nb all0))
      refine Go.pop C d7_78 rfl (pc' := 79) rfl ?_
      refine Go.getS C d7_79 (hw _ (List.mem_of_getElem? (i := 61) rfl)) Via.refl (H.1.ext O3.2) (pc' := 82) rfl ?_
      refine Go.aloadN C d7_82 rfl rfl (pc' := 83) rfl ?_
      refine Go.iload C d7_83 rfl (pc' := 85) rfl ?_
      refine Go.i2b C d7_85 (pc' := 86) rfl ?_
      rw [own_bL _ (by omega)]
      show Go p l e ({ frames := 6, cells := 6, slots := 64, locals := 91 } : Room) s m #[.long v] below meth c Z "com/example/patterns_to_partitions/patternstopartitions/key/UintKey" n0 _ (EnW s ({ frames := 6, cells := 6, slots := 64, locals := 91 } : Room) n0 Z [] (fun v' h => ∃ a t kt, v' = some (.ref a) ∧ Keep h0 h [] ∧ Str Z h a t kt (own_cs (own_key (own_N v) (v - 251))))) _ _ _ 86 #[.val (.long v), .second, .val (.ref sa), .val (.long (v - (251 : Int64))), .second, .val (.int (Int32.ofNat (own_L (own_N (v - (251 : Int64)))))), .unset] [(.int (own_sb (own_L (own_N (v - 251))))), (.ref sa), (.ref T.1)]
      refine Go.callVP C d7_86 (hw _ (List.mem_of_getElem? (i := 63) rfl)) (hw _ (List.mem_of_getElem? (i := 64) rfl)) (hw _ (List.mem_of_getElem? (i := 66) rfl)) (hw _ (List.mem_of_getElem? (i := 65) rfl)) (fun st hZ => notFace_of_selects (args := #[]) (mvT hZ (hw _ (List.mem_of_getElem? (i := 66) rfl)))) (by decide) (H.2.1.ext O3.2) (argsL := [(.ref sa), (.int (own_sb (own_L (own_N (v - 251)))))]) (rest := []) rfl (lenOf pd__Ljava_lang_Appendable_B_Ljava_lang_Appendable_ rfl) rfl (W := 0) (Nat.le_of_ble_eq_true rfl) (X := (LV Z "java/util/HexFormat" 90)) (Y := (LV Z "java/util/HexFormat" 90)) (CtPH.pay (fun s _ _ W q => LV.stays (s := s) q W) (rm_hex2 l Z a0 hw T sa ba kb ([] ++ own_cs [255]) (own_L (own_N (v - 251))) z h3 n0 B3 (by omega) (by decide) na nb H St hz O3) hEL (hw _ (List.mem_of_getElem? (i := 68) rfl)) (hw _ (List.mem_of_getElem? (i := 67) rfl)) (by decide) (by decide)) (by simp) (fun _ q => q) (fun s _ _ W q _ => LV.stays (s := s) q W) (fun _ _ _ q => q.2) (by decide) (by decide) (pc' := 89) rfl ?_
      rintro _ h4 L5 ⟨⟨rfl, K4, B4⟩, -⟩ -
      show Go p l e ({ frames := 6, cells := 6, slots := 64, locals := 91 } : Room) s m #[.long v] below meth c Z "com/example/patterns_to_partitions/patternstopartitions/key/UintKey" n0 _ (EnW s ({ frames := 6, cells := 6, slots := 64, locals := 91 } : Room) n0 Z [] (fun v' h => ∃ a t kt, v' = some (.ref a) ∧ Keep h0 h [] ∧ Str Z h a t kt (own_cs (own_key (own_N v) (v - 251))))) _ _ _ 89 #[.val (.long v), .second, .val (.ref sa), .val (.long (v - (251 : Int64))), .second, .val (.int (Int32.ofNat (own_L (own_N (v - (251 : Int64)))))), .unset] [(.ref sa)]
      refine Go.pop C d7_89 rfl (pc' := 90) rfl ?_
      refine Go.bipush C d7_90 (v := 8) rfl (pc' := 92) rfl ?_
      refine Go.iload C d7_92 rfl (pc' := 94) rfl ?_
      refine Go.iconst C d7_94 (v := 1) rfl (pc' := 95) rfl ?_
      refine Go.isub C d7_95 (pc' := 96) rfl ?_
      refine Go.imul C d7_96 (pc' := 97) rfl ?_
      rw [own_s0 _ (by omega)]
      show Go p l e ({ frames := 6, cells := 6, slots := 64, locals := 91 } : Room) s m #[.long v] below meth c Z "com/example/patterns_to_partitions/patternstopartitions/key/UintKey" n0 _ (EnW s ({ frames := 6, cells := 6, slots := 64, locals := 91 } : Room) n0 Z [] (fun v' h => ∃ a t kt, v' = some (.ref a) ∧ Keep h0 h [] ∧ Str Z h a t kt (own_cs (own_key (own_N v) (v - 251))))) _ _ _ 97 #[.val (.long v), .second, .val (.ref sa), .val (.long (v - (251 : Int64))), .second, .val (.int (Int32.ofNat (own_L (own_N (v - (251 : Int64)))))), .unset] [(.int (Int32.ofNat (8 * (own_L (own_N (v - 251)))) - 8))]
      refine Go.istore C d7_97 (L' := #[.val (.long v), .second, .val (.ref sa), .val (.long (v - (251 : Int64))), .second, .val (.int (Int32.ofNat (own_L (own_N (v - (251 : Int64)))))), .val (.int (Int32.ofNat (8 * (own_L (own_N (v - 251)))) - 8))]) rfl (pc' := 99) rfl ?_
      exact K99 (own_L (own_N (v - 251))) hLs.2.1 h4 [255, (own_L (own_N (v - 251)))] B4 (by rw [own_key, if_neg hv, if_neg hL4]) (K3.trans K4 (fun x hx => Or.inl hx))
    · have hL4 : (own_L (own_N (v - 251))) ≤ 4 := Nat.le_of_not_lt fun q => hd ((own_gt4 _ (by omega)).mpr q)
      refine Go.getS C d7_52 (hw _ (List.mem_of_getElem? (i := 61) rfl)) Via.refl (H.1.ext O2.2) (pc' := 55) rfl ?_
      refine Go.aloadN C d7_55 rfl rfl (pc' := 56) rfl ?_
      refine Go.sipush C d7_56 (v := 250) rfl (pc' := 59) rfl ?_
      refine Go.iload C d7_59 rfl (pc' := 61) rfl ?_
      refine Go.iadd C d7_61 (pc' := 62) rfl ?_
      refine Go.i2b C d7_62 (pc' := 63) rfl ?_
      rw [own_b250 _ (by omega)]
      show Go p l e ({ frames := 6, cells := 6, slots := 64, locals := 91 } : Room) s m #[.long v] below meth c Z "com/example/patterns_to_partitions/patternstopartitions/key/UintKey" n0 _ (EnW s ({ frames := 6, cells := 6, slots := 64, locals := 91 } : Room) n0 Z [] (fun v' h => ∃ a t kt, v' = some (.ref a) ∧ Keep h0 h [] ∧ Str Z h a t kt (own_cs (own_key (own_N v) (v - 251))))) _ _ _ 63 #[.val (.long v), .second, .val (.ref sa), .val (.long (v - (251 : Int64))), .second, .val (.int (Int32.ofNat (own_L (own_N (v - (251 : Int64)))))), .unset] [(.int (own_sb (250 + (own_L (own_N (v - 251)))))), (.ref sa), (.ref T.1)]
      refine Go.callVP C d7_63 (hw _ (List.mem_of_getElem? (i := 63) rfl)) (hw _ (List.mem_of_getElem? (i := 64) rfl)) (hw _ (List.mem_of_getElem? (i := 66) rfl)) (hw _ (List.mem_of_getElem? (i := 65) rfl)) (fun st hZ => notFace_of_selects (args := #[]) (mvT hZ (hw _ (List.mem_of_getElem? (i := 66) rfl)))) (by decide) (H.2.1.ext O2.2) (argsL := [(.ref sa), (.int (own_sb (250 + (own_L (own_N (v - 251))))))]) (rest := []) rfl (lenOf pd__Ljava_lang_Appendable_B_Ljava_lang_Appendable_ rfl) rfl (W := 0) (Nat.le_of_ble_eq_true rfl) (X := TV) (Y := (LV Z "java/util/HexFormat" 90)) (CtPH.pay (fun _ _ _ _ _ => trivial) (rm_hex1 l Z a0 hw T sa ba kb [] (250 + (own_L (own_N (v - 251)))) z h2 n0 B2 (by omega) (by decide) na nb H St hz O2) hEL (hw _ (List.mem_of_getElem? (i := 68) rfl)) (hw _ (List.mem_of_getElem? (i := 67) rfl)) (by decide) (by decide)) (by simp) (fun _ q => q) (fun _ _ _ _ _ q => q) (fun _ _ _ q => q.2) (by decide) (by decide) (pc' := 66) rfl ?_
      rintro _ h3 L4 ⟨⟨rfl, K3, B3⟩, -⟩ -
      show Go p l e ({ frames := 6, cells := 6, slots := 64, locals := 91 } : Room) s m #[.long v] below meth c Z "com/example/patterns_to_partitions/patternstopartitions/key/UintKey" n0 _ (EnW s ({ frames := 6, cells := 6, slots := 64, locals := 91 } : Room) n0 Z [] (fun v' h => ∃ a t kt, v' = some (.ref a) ∧ Keep h0 h [] ∧ Str Z h a t kt (own_cs (own_key (own_N v) (v - 251))))) _ _ _ 66 #[.val (.long v), .second, .val (.ref sa), .val (.long (v - (251 : Int64))), .second, .val (.int (Int32.ofNat (own_L (own_N (v - (251 : Int64)))))), .unset] [(.ref sa)]
      refine Go.pop C d7_66 rfl (pc' := 67) rfl ?_
      refine Go.goto C d7_67 (by decide) (pc' := 90) (by decide) ?_
      refine Go.bipush C d7_90 (v := 8) rfl (pc' := 92) rfl ?_
      refine Go.iload C d7_92 rfl (pc' := 94) rfl ?_
      refine Go.iconst C d7_94 (v := 1) rfl (pc' := 95) rfl ?_
      refine Go.isub C d7_95 (pc' := 96) rfl ?_
      refine Go.imul C d7_96 (pc' := 97) rfl ?_
      rw [own_s0 _ (by omega)]
      show Go p l e ({ frames := 6, cells := 6, slots := 64, locals := 91 } : Room) s m #[.long v] below meth c Z "com/example/patterns_to_partitions/patternstopartitions/key/UintKey" n0 _ (EnW s ({ frames := 6, cells := 6, slots := 64, locals := 91 } : Room) n0 Z [] (fun v' h => ∃ a t kt, v' = some (.ref a) ∧ Keep h0 h [] ∧ Str Z h a t kt (own_cs (own_key (own_N v) (v - 251))))) _ _ _ 97 #[.val (.long v), .second, .val (.ref sa), .val (.long (v - (251 : Int64))), .second, .val (.int (Int32.ofNat (own_L (own_N (v - (251 : Int64)))))), .unset] [(.int (Int32.ofNat (8 * (own_L (own_N (v - 251)))) - 8))]
      refine Go.istore C d7_97 (L' := #[.val (.long v), .second, .val (.ref sa), .val (.long (v - (251 : Int64))), .second, .val (.int (Int32.ofNat (own_L (own_N (v - (251 : Int64)))))), .val (.int (Int32.ofNat (8 * (own_L (own_N (v - 251)))) - 8))]) rfl (pc' := 99) rfl ?_
      exact K99 (own_L (own_N (v - 251))) hLs.2.1 h3 _ B3 (by rw [own_key, if_neg hv, if_pos hL4]) K3
  · have hv := r1.mp hc
    refine Go.getS C d7_20 (hw _ (List.mem_of_getElem? (i := 61) rfl)) Via.refl (H.1.ext O2.2) (pc' := 23) rfl ?_
    refine Go.aloadN C d7_23 rfl rfl (pc' := 24) rfl ?_
    refine Go.lloadN C d7_24 rfl (pc' := 25) rfl ?_
    refine Go.l2i C d7_25 (pc' := 26) rfl ?_
    refine Go.i2b C d7_26 (pc' := 27) rfl ?_
    rw [own_byte, Nat.mod_eq_of_lt (show own_N v < 256 by omega)]
    show Go p l e ({ frames := 6, cells := 6, slots := 64, locals := 91 } : Room) s m #[.long v] below meth c Z "com/example/patterns_to_partitions/patternstopartitions/key/UintKey" n0 _ (EnW s ({ frames := 6, cells := 6, slots := 64, locals := 91 } : Room) n0 Z [] (fun v' h => ∃ a t kt, v' = some (.ref a) ∧ Keep h0 h [] ∧ Str Z h a t kt (own_cs (own_key (own_N v) (v - 251))))) _ _ _ 27 #[.val (.long v), .second, .val (.ref sa), .unset, .unset, .unset, .unset] [(.int (own_sb (own_N v))), (.ref sa), (.ref T.1)]
    refine Go.callVP C d7_27 (hw _ (List.mem_of_getElem? (i := 63) rfl)) (hw _ (List.mem_of_getElem? (i := 64) rfl)) (hw _ (List.mem_of_getElem? (i := 66) rfl)) (hw _ (List.mem_of_getElem? (i := 65) rfl)) (fun st hZ => notFace_of_selects (args := #[]) (mvT hZ (hw _ (List.mem_of_getElem? (i := 66) rfl)))) (by decide) (H.2.1.ext O2.2) (argsL := [(.ref sa), (.int (own_sb (own_N v)))]) (rest := []) rfl (lenOf pd__Ljava_lang_Appendable_B_Ljava_lang_Appendable_ rfl) rfl (W := 0) (Nat.le_of_ble_eq_true rfl) (X := TV) (Y := (LV Z "java/util/HexFormat" 90)) (CtPH.pay (fun _ _ _ _ _ => trivial) (rm_hex1 l Z a0 hw T sa ba kb [] (own_N v) z h2 n0 B2 (by omega) (by decide) na nb H St hz O2) hEL (hw _ (List.mem_of_getElem? (i := 68) rfl)) (hw _ (List.mem_of_getElem? (i := 67) rfl)) (by decide) (by decide)) (by simp) (fun _ q => q) (fun _ _ _ _ _ q => q) (fun _ _ _ q => q.2) (by decide) (by decide) (pc' := 30) rfl ?_
    rintro _ h3 L3 ⟨⟨rfl, K3, B3⟩, -⟩ -
    show Go p l e ({ frames := 6, cells := 6, slots := 64, locals := 91 } : Room) s m #[.long v] below meth c Z "com/example/patterns_to_partitions/patternstopartitions/key/UintKey" n0 _ (EnW s ({ frames := 6, cells := 6, slots := 64, locals := 91 } : Room) n0 Z [] (fun v' h => ∃ a t kt, v' = some (.ref a) ∧ Keep h0 h [] ∧ Str Z h a t kt (own_cs (own_key (own_N v) (v - 251))))) _ _ _ 30 #[.val (.long v), .second, .val (.ref sa), .unset, .unset, .unset, .unset] [(.ref sa)]
    refine Go.pop C d7_30 rfl (pc' := 31) rfl ?_
    refine Go.goto C d7_31 (by decide) (pc' := 124) (by decide) ?_
    exact K124 h3 _ _ _ _ (by rw [own_key, if_pos hv]; exact B3) K3
set_option maxRecDepth 65536 in
set_option maxHeartbeats 40000000 in
theorem rm_emp (l : Launch) (Z : State) (a0 : Array Value) (hw : ∀ d ∈ tables_1, d.before a0 Z = true) (sa t : Addr) (kt : ClassId) (cs : List Int32) (h0 : Heap) (n0 : Nat) (S : Str Z h0 sa t kt cs) (hne : ¬ Int32.ofNat cs.length = 0) :
    Ct l Z (⟨"java/lang/String", "isEmpty", "()Z"⟩ : MethodName) jdk_42_method_55_code 1 (some .boolean) [] ({ frames := 0, cells := 0, slots := 0, locals := 0 } : Room) #[.ref sa] h0 n0 (fun v h => v = some (.int 0) ∧ h0 = h) := by
  refine Ct.of (L0 := #[.val (.ref sa)]) (plainFor_of_name pn_java_lang_String) (fun m => by first | (simp [entryFrame, mkF, argsToLocals, Value.category]; done) | rfl) ?_
  intro p e s m below meth c C hnm
  refine Go.aloadN C d33_0 rfl rfl (pc' := 1) rfl ?_
  refine Go.getF C d33_1 (hw _ (List.mem_of_getElem? (i := 28) rfl)) Via.refl S.2.2.1 (pc' := 4) rfl ?_
  refine Go.arraylengthV C d33_4 S.2.2.2.1 (pc' := 5) rfl ?_
  refine Go.if_ne_t C d33_5 hne (by decide) (pc' := 12) (by decide) ?_
  refine Go.iconst C d33_12 (v := 0) rfl (pc' := 13) rfl ?_
  refine Go.retN C (by simp) d33_13 (by decide) (by decide) ?_
  exact ⟨rfl, rfl⟩
set_option maxRecDepth 65536 in
set_option maxHeartbeats 40000000 in
theorem rm_hd (l : Launch) (Z : State) (a0 : Array Value) (hw : ∀ d ∈ tables_1, d.before a0 Z = true) (k : Nat) (h0 : Heap) (n0 : Nat) (hk : k < 16) :
    Ct l Z (⟨"com/example/patterns_to_partitions/patternstopartitions/key/UintKey", "hexDigit", "(C)I"⟩ : MethodName) prog_26_method_7_code 2 (some .int) [] ({ frames := 0, cells := 0, slots := 0, locals := 0 } : Room) #[.int (own_dg k)] h0 n0 (fun v h => v = some (.int (Int32.ofNat k)) ∧ h0 = h) := by
  refine Ct.of (L0 := #[.val (.int (own_dg k)), .unset]) (plainFor_of_name pn_com_example_patterns_to_partitions_patternstopartitions_key_UintKey) (fun m => by first | (simp [entryFrame, mkF, argsToLocals, Value.category]; done) | rfl) ?_
  intro p e s m below meth c C hnm
  refine Go.iloadN C d42_0 rfl (pc' := 1) rfl ?_
  refine Go.bipush C d42_1 (v := 48) rfl (pc' := 3) rfl ?_
  refine Go.icmp_lt C d42_3 (by decide) (pc1 := 20) (by decide) (pc2 := 6) rfl (fun h1 => ?_) (fun h1 => ?_)
  · obtain ⟨q1, q2, q3⟩ := own_hx2 k hk (Or.inl h1)
    refine Go.iloadN C d42_20 rfl (pc' := 21) rfl ?_
    refine Go.bipush C d42_21 (v := 97) rfl (pc' := 23) rfl ?_
    refine Go.icmp_lt_f C d42_23 q1 (pc' := 26) rfl ?_
    refine Go.iloadN C d42_26 rfl (pc' := 27) rfl ?_
    refine Go.bipush C d42_27 (v := 102) rfl (pc' := 29) rfl ?_
    refine Go.icmp_gt_f C d42_29 q2 (pc' := 32) rfl ?_
    refine Go.iloadN C d42_32 rfl (pc' := 33) rfl ?_
    refine Go.bipush C d42_33 (v := 97) rfl (pc' := 35) rfl ?_
    refine Go.isub C d42_35 (pc' := 36) rfl ?_
    refine Go.bipush C d42_36 (v := 10) rfl (pc' := 38) rfl ?_
    refine Go.iadd C d42_38 (pc' := 39) rfl ?_
    refine Go.istoreN C d42_39 (L' := #[.val (.int (own_dg k)), .val (.int (((own_dg k) - (97 : Int32)) + (10 : Int32)))]) rfl (pc' := 40) rfl ?_
    refine Go.goto C d42_40 (by decide) (pc' := 45) (by decide) ?_
    refine Go.iloadN C d42_45 rfl (pc' := 46) rfl ?_
    rw [q3]
    refine Go.retI C d42_46 (by decide) (by decide) ?_
    exact ⟨rfl, rfl⟩
  · refine Go.iloadN C d42_6 rfl (pc' := 7) rfl ?_
    refine Go.bipush C d42_7 (v := 57) rfl (pc' := 9) rfl ?_
    refine Go.icmp_gt C d42_9 (by decide) (pc1 := 20) (by decide) (pc2 := 12) rfl (fun h2 => ?_) (fun h2 => ?_)
    · obtain ⟨q1, q2, q3⟩ := own_hx2 k hk (Or.inr h2)
      refine Go.iloadN C d42_20 rfl (pc' := 21) rfl ?_
      refine Go.bipush C d42_21 (v := 97) rfl (pc' := 23) rfl ?_
      refine Go.icmp_lt_f C d42_23 q1 (pc' := 26) rfl ?_
      refine Go.iloadN C d42_26 rfl (pc' := 27) rfl ?_
      refine Go.bipush C d42_27 (v := 102) rfl (pc' := 29) rfl ?_
      refine Go.icmp_gt_f C d42_29 q2 (pc' := 32) rfl ?_
      refine Go.iloadN C d42_32 rfl (pc' := 33) rfl ?_
      refine Go.bipush C d42_33 (v := 97) rfl (pc' := 35) rfl ?_
      refine Go.isub C d42_35 (pc' := 36) rfl ?_
      refine Go.bipush C d42_36 (v := 10) rfl (pc' := 38) rfl ?_
      refine Go.iadd C d42_38 (pc' := 39) rfl ?_
      refine Go.istoreN C d42_39 (L' := #[.val (.int (own_dg k)), .val (.int (((own_dg k) - (97 : Int32)) + (10 : Int32)))]) rfl (pc' := 40) rfl ?_
      refine Go.goto C d42_40 (by decide) (pc' := 45) (by decide) ?_
      refine Go.iloadN C d42_45 rfl (pc' := 46) rfl ?_
      rw [q3]
      refine Go.retI C d42_46 (by decide) (by decide) ?_
      exact ⟨rfl, rfl⟩
    · refine Go.iloadN C d42_12 rfl (pc' := 13) rfl ?_
      refine Go.bipush C d42_13 (v := 48) rfl (pc' := 15) rfl ?_
      refine Go.isub C d42_15 (pc' := 16) rfl ?_
      refine Go.istoreN C d42_16 (L' := #[.val (.int (own_dg k)), .val (.int ((own_dg k) - (48 : Int32)))]) rfl (pc' := 17) rfl ?_
      refine Go.goto C d42_17 (by decide) (pc' := 45) (by decide) ?_
      refine Go.iloadN C d42_45 rfl (pc' := 46) rfl ?_
      rw [own_hx1 k hk h1 h2]
      refine Go.retI C d42_46 (by decide) (by decide) ?_
      exact ⟨rfl, rfl⟩
set_option maxRecDepth 65536 in
set_option maxHeartbeats 40000000 in
theorem rm_ba (l : Launch) (Z : State) (a0 : Array Value) (hw : ∀ d ∈ tables_1, d.before a0 Z = true) (sa ty t : Addr) (kt : ClassId) (bs : List Nat) (i : Nat) (z : Int32) (fm : Value) (h0 : Heap) (n0 : Nat) (S : Str Z h0 sa t kt (own_cs bs)) (hb : ∀ q ∈ bs, q < 256) (hi : i < bs.length) (hl : bs.length ≤ 10) (St : Sta Z Z.heap "java/lang/String" "COMPACT_STRINGS" "Z" (.int z)) (hz : ¬ z = 0) (Fm : Sta Z Z.heap "jdk/internal/util/Preconditions" "SIOOBE_FORMATTER" "Ljava/util/function/BiFunction;" fm) (rf : fm.isRef = true) (O0 : Old Z n0 h0) :
    Ct l Z (⟨"com/example/patterns_to_partitions/patternstopartitions/key/UintKey", "byteAt", "(Ljava/lang/String;Ljava/lang/String;I)I"⟩ : MethodName) prog_26_method_6_code 5 (some .int) [] ({ frames := 4, cells := 0, slots := 0, locals := 53 } : Room) #[.ref sa, .ref ty, .int (Int32.ofNat i)] h0 n0 (fun v h => v = some (.int (Int32.ofNat (bs.getD i 0))) ∧ h0 = h) := by
  refine Ct.of (L0 := #[.val (.ref sa), .val (.ref ty), .val (.int (Int32.ofNat i)), .unset, .unset]) (plainFor_of_name pn_com_example_patterns_to_partitions_patternstopartitions_key_UintKey) (fun m => by first | (simp [entryFrame, mkF, argsToLocals, Value.category]; done) | rfl) ?_
  intro p e s m below meth c C hnm
  have hq := own_gd bs i hb
  have h16 : bs.getD i 0 / 16 < 16 ∧ bs.getD i 0 % 16 < 16 := by omega
  refine Go.aloadN C d36_0 rfl rfl (pc' := 1) rfl ?_
  refine Go.iconst C d36_1 (v := 2) rfl (pc' := 2) rfl ?_
  refine Go.iloadN C d36_2 rfl (pc' := 3) rfl ?_
  refine Go.imul C d36_3 (pc' := 4) rfl ?_
  rw [own_mul2 i (by omega)]
  show Go p l e ({ frames := 4, cells := 0, slots := 0, locals := 53 } : Room) s m #[.ref sa, .ref ty, .int (Int32.ofNat i)] below meth c Z "com/example/patterns_to_partitions/patternstopartitions/key/UintKey" n0 (Bn s) (EnN s ({ frames := 4, cells := 0, slots := 0, locals := 53 } : Room) n0 (fun v h => v = some (.int (Int32.ofNat (bs.getD i 0))) ∧ h0 = h)) _ _ _ 4 #[.val (.ref sa), .val (.ref ty), .val (.int (Int32.ofNat i)), .unset, .unset] [(.int (Int32.ofNat (2 * i))), (.ref sa)]
  refine Go.callV C d36_4 (hw _ (List.mem_of_getElem? (i := 188) rfl)) (hw _ (List.mem_of_getElem? (i := 189) rfl)) (hw _ (List.mem_of_getElem? (i := 191) rfl)) (hw _ (List.mem_of_getElem? (i := 190) rfl)) (fun st hZ => notFace_of_selects (args := #[]) (mvT hZ (hw _ (List.mem_of_getElem? (i := 191) rfl)))) (by decide) S.1 (argsL := [(.int (Int32.ofNat (2 * i)))]) (rest := []) rfl (lenOf pd__I_C rfl) rfl (W := 0) (Nat.le_of_ble_eq_true rfl) (own_chP hw S (St.ext O0.2) hz (Fm.ext O0.2) rf (i := 2 * i) (by rw [own_cs_len]; omega) rfl (by decide) (by decide)) (fun _ _ _ q => q.2) (by decide) (by decide) (fun _ _ _ _ _ q => q) (pc' := 7) rfl ?_
  rintro _ _ L1 ⟨⟨rfl, rfl⟩, -⟩
  show Go p l e ({ frames := 4, cells := 0, slots := 0, locals := 53 } : Room) s m #[.ref sa, .ref ty, .int (Int32.ofNat i)] below meth c Z "com/example/patterns_to_partitions/patternstopartitions/key/UintKey" n0 (Bn s) (EnN s ({ frames := 4, cells := 0, slots := 0, locals := 53 } : Room) n0 (fun v h => v = some (.int (Int32.ofNat (bs.getD i 0))) ∧ h0 = h)) _ _ _ 7 #[.val (.ref sa), .val (.ref ty), .val (.int (Int32.ofNat i)), .unset, .unset] [(.int ((own_cs bs).getD (2 * i) 0))]
  rw [own_cs_h bs i hi]
  show Go p l e ({ frames := 4, cells := 0, slots := 0, locals := 53 } : Room) s m #[.ref sa, .ref ty, .int (Int32.ofNat i)] below meth c Z "com/example/patterns_to_partitions/patternstopartitions/key/UintKey" n0 (Bn s) (EnN s ({ frames := 4, cells := 0, slots := 0, locals := 53 } : Room) n0 (fun v h => v = some (.int (Int32.ofNat (bs.getD i 0))) ∧ h0 = h)) _ _ _ 7 #[.val (.ref sa), .val (.ref ty), .val (.int (Int32.ofNat i)), .unset, .unset] [(.int (own_dg (bs.getD i 0 / 16)))]
  refine Go.callS C d36_7 (hw _ (List.mem_of_getElem? (i := 209) rfl)) (hw _ (List.mem_of_getElem? (i := 210) rfl)) (hw _ (List.mem_of_getElem? (i := 32) rfl)) (hw _ (List.mem_of_getElem? (i := 211) rfl)) (by decide) (argsL := [(.int (own_dg (bs.getD i 0 / 16)))]) (rest := []) rfl (lenOf pd__C_I rfl) rfl (W := 0) (Nat.le_of_ble_eq_true rfl) (Ct.pay (rm_hd l Z a0 hw (bs.getD i 0 / 16) h0 n0 h16.1) (hw _ (List.mem_of_getElem? (i := 211) rfl)) (hw _ (List.mem_of_getElem? (i := 32) rfl)) (by decide) (by decide)) (fun _ _ _ q => q.2) (by decide) (by decide) (fun _ _ _ _ _ q => q) (pc' := 10) rfl ?_
  rintro _ _ L2 ⟨⟨rfl, rfl⟩, -⟩
  show Go p l e ({ frames := 4, cells := 0, slots := 0, locals := 53 } : Room) s m #[.ref sa, .ref ty, .int (Int32.ofNat i)] below meth c Z "com/example/patterns_to_partitions/patternstopartitions/key/UintKey" n0 (Bn s) (EnN s ({ frames := 4, cells := 0, slots := 0, locals := 53 } : Room) n0 (fun v h => v = some (.int (Int32.ofNat (bs.getD i 0))) ∧ h0 = h)) _ _ _ 10 #[.val (.ref sa), .val (.ref ty), .val (.int (Int32.ofNat i)), .unset, .unset] [(.int (Int32.ofNat (bs.getD i 0 / 16)))]
  refine Go.istoreN C d36_10 (L' := #[.val (.ref sa), .val (.ref ty), .val (.int (Int32.ofNat i)), .val (.int (Int32.ofNat (bs.getD i 0 / 16))), .unset]) rfl (pc' := 11) rfl ?_
  refine Go.aloadN C d36_11 rfl rfl (pc' := 12) rfl ?_
  refine Go.iconst C d36_12 (v := 2) rfl (pc' := 13) rfl ?_
  refine Go.iloadN C d36_13 rfl (pc' := 14) rfl ?_
  refine Go.imul C d36_14 (pc' := 15) rfl ?_
  refine Go.iconst C d36_15 (v := 1) rfl (pc' := 16) rfl ?_
  refine Go.iadd C d36_16 (pc' := 17) rfl ?_
  rw [own_mul21 i (by omega)]
  show Go p l e ({ frames := 4, cells := 0, slots := 0, locals := 53 } : Room) s m #[.ref sa, .ref ty, .int (Int32.ofNat i)] below meth c Z "com/example/patterns_to_partitions/patternstopartitions/key/UintKey" n0 (Bn s) (EnN s ({ frames := 4, cells := 0, slots := 0, locals := 53 } : Room) n0 (fun v h => v = some (.int (Int32.ofNat (bs.getD i 0))) ∧ h0 = h)) _ _ _ 17 #[.val (.ref sa), .val (.ref ty), .val (.int (Int32.ofNat i)), .val (.int (Int32.ofNat (bs.getD i 0 / 16))), .unset] [(.int (Int32.ofNat (2 * i + 1))), (.ref sa)]
  refine Go.callV C d36_17 (hw _ (List.mem_of_getElem? (i := 188) rfl)) (hw _ (List.mem_of_getElem? (i := 189) rfl)) (hw _ (List.mem_of_getElem? (i := 191) rfl)) (hw _ (List.mem_of_getElem? (i := 190) rfl)) (fun st hZ => notFace_of_selects (args := #[]) (mvT hZ (hw _ (List.mem_of_getElem? (i := 191) rfl)))) (by decide) S.1 (argsL := [(.int (Int32.ofNat (2 * i + 1)))]) (rest := []) rfl (lenOf pd__I_C rfl) rfl (W := 0) (Nat.le_of_ble_eq_true rfl) (own_chP hw S (St.ext O0.2) hz (Fm.ext O0.2) rf (i := 2 * i + 1) (by rw [own_cs_len]; omega) rfl (by decide) (by decide)) (fun _ _ _ q => q.2) (by decide) (by decide) (fun _ _ _ _ _ q => q) (pc' := 20) rfl ?_
  rintro _ _ L3 ⟨⟨rfl, rfl⟩, -⟩
  show Go p l e ({ frames := 4, cells := 0, slots := 0, locals := 53 } : Room) s m #[.ref sa, .ref ty, .int (Int32.ofNat i)] below meth c Z "com/example/patterns_to_partitions/patternstopartitions/key/UintKey" n0 (Bn s) (EnN s ({ frames := 4, cells := 0, slots := 0, locals := 53 } : Room) n0 (fun v h => v = some (.int (Int32.ofNat (bs.getD i 0))) ∧ h0 = h)) _ _ _ 20 #[.val (.ref sa), .val (.ref ty), .val (.int (Int32.ofNat i)), .val (.int (Int32.ofNat (bs.getD i 0 / 16))), .unset] [(.int ((own_cs bs).getD (2 * i + 1) 0))]
  rw [own_cs_l bs i hi]
  show Go p l e ({ frames := 4, cells := 0, slots := 0, locals := 53 } : Room) s m #[.ref sa, .ref ty, .int (Int32.ofNat i)] below meth c Z "com/example/patterns_to_partitions/patternstopartitions/key/UintKey" n0 (Bn s) (EnN s ({ frames := 4, cells := 0, slots := 0, locals := 53 } : Room) n0 (fun v h => v = some (.int (Int32.ofNat (bs.getD i 0))) ∧ h0 = h)) _ _ _ 20 #[.val (.ref sa), .val (.ref ty), .val (.int (Int32.ofNat i)), .val (.int (Int32.ofNat (bs.getD i 0 / 16))), .unset] [(.int (own_dg (bs.getD i 0 % 16)))]
  refine Go.callS C d36_20 (hw _ (List.mem_of_getElem? (i := 209) rfl)) (hw _ (List.mem_of_getElem? (i := 210) rfl)) (hw _ (List.mem_of_getElem? (i := 32) rfl)) (hw _ (List.mem_of_getElem? (i := 211) rfl)) (by decide) (argsL := [(.int (own_dg (bs.getD i 0 % 16)))]) (rest := []) rfl (lenOf pd__C_I rfl) rfl (W := 0) (Nat.le_of_ble_eq_true rfl) (Ct.pay (rm_hd l Z a0 hw (bs.getD i 0 % 16) h0 n0 h16.2) (hw _ (List.mem_of_getElem? (i := 211) rfl)) (hw _ (List.mem_of_getElem? (i := 32) rfl)) (by decide) (by decide)) (fun _ _ _ q => q.2) (by decide) (by decide) (fun _ _ _ _ _ q => q) (pc' := 23) rfl ?_
  rintro _ _ L4 ⟨⟨rfl, rfl⟩, -⟩
  show Go p l e ({ frames := 4, cells := 0, slots := 0, locals := 53 } : Room) s m #[.ref sa, .ref ty, .int (Int32.ofNat i)] below meth c Z "com/example/patterns_to_partitions/patternstopartitions/key/UintKey" n0 (Bn s) (EnN s ({ frames := 4, cells := 0, slots := 0, locals := 53 } : Room) n0 (fun v h => v = some (.int (Int32.ofNat (bs.getD i 0))) ∧ h0 = h)) _ _ _ 23 #[.val (.ref sa), .val (.ref ty), .val (.int (Int32.ofNat i)), .val (.int (Int32.ofNat (bs.getD i 0 / 16))), .unset] [(.int (Int32.ofNat (bs.getD i 0 % 16)))]
  refine Go.istore C d36_23 (L' := #[.val (.ref sa), .val (.ref ty), .val (.int (Int32.ofNat i)), .val (.int (Int32.ofNat (bs.getD i 0 / 16))), .val (.int (Int32.ofNat (bs.getD i 0 % 16)))]) rfl (pc' := 25) rfl ?_
  refine Go.iloadN C d36_25 rfl (pc' := 26) rfl ?_
  refine Go.if_lt_f C d36_26 (own_pos _ (by omega)) (pc' := 29) rfl ?_
  refine Go.iload C d36_29 rfl (pc' := 31) rfl ?_
  refine Go.if_ge_t C d36_31 (own_pos _ (by omega)) (by decide) (pc' := 42) (by decide) ?_
  refine Go.iloadN C d36_42 rfl (pc' := 43) rfl ?_
  refine Go.iconst C d36_43 (v := 4) rfl (pc' := 44) rfl ?_
  refine Go.ishl C d36_44 (pc' := 45) rfl ?_
  refine Go.iload C d36_45 rfl (pc' := 47) rfl ?_
  refine Go.ior C d36_47 (pc' := 48) rfl ?_
  rw [own_hl _ h16.1 _ h16.2, show bs.getD i 0 / 16 * 16 + bs.getD i 0 % 16 = bs.getD i 0 by omega]
  refine Go.retI C d36_48 (by decide) (by decide) ?_
  exact ⟨rfl, rfl⟩
set_option maxRecDepth 65536 in
set_option maxHeartbeats 40000000 in
theorem rm_dec (l : Launch) (Z : State) (a0 : Array Value) (hw : ∀ d ∈ tables_1, d.before a0 Z = true) (sa ty t : Addr) (kt : ClassId) (bs : List Nat) (st L : Nat) (x : Int64) (z : Int32) (fm : Value) (h0 : Heap) (n0 : Nat) (S : Str Z h0 sa t kt (own_cs bs)) (hb : ∀ q ∈ bs, q < 256) (hlen : bs.length = st + L) (hL : 1 ≤ L ∧ L ≤ 8) (hget : ∀ n, n < L → bs.getD (st + (L - (n + 1))) 0 = own_N x / 256 ^ n % 256) (hlt : own_N x < 256 ^ L) (hmin : 1 < L → 256 ^ (L - 1) ≤ own_N x) (hsh : (st = 0 ∧ L = 1 ∧ bs.getD 0 0 < 251) ∨ (st = 1 ∧ L ≤ 4 ∧ bs.getD 0 0 = 250 + L) ∨ (st = 2 ∧ 4 < L ∧ bs.getD 0 0 = 255 ∧ bs.getD 1 0 = L)) (hmax : 0 < st → own_N x ≤ 18446744073709551364) (St : Sta Z Z.heap "java/lang/String" "COMPACT_STRINGS" "Z" (.int z)) (hz : ¬ z = 0) (Fm : Sta Z Z.heap "jdk/internal/util/Preconditions" "SIOOBE_FORMATTER" "Ljava/util/function/BiFunction;" fm) (rf : fm.isRef = true) (O0 : Old Z n0 h0) :
    Ct l Z (⟨"com/example/patterns_to_partitions/patternstopartitions/key/UintKey", "decode", "(Ljava/lang/String;Ljava/lang/String;)J"⟩ : MethodName) prog_26_method_4_code 9 (some .long) [] ({ frames := 5, cells := 0, slots := 0, locals := 71 } : Room) #[.ref sa, .ref ty] h0 n0 (fun v h => v = some (.long (if st = 0 then x else x + 251)) ∧ h0 = h) := by
  refine Ct.of (L0 := #[.val (.ref sa), .val (.ref ty), .unset, .unset, .unset, .unset, .unset, .unset, .unset]) (plainFor_of_name pn_com_example_patterns_to_partitions_patternstopartitions_key_UintKey) (fun m => by first | (simp [entryFrame, mkF, argsToLocals, Value.category]; done) | rfl) ?_
  intro p e s m below meth c C hnm
  have hst : st < 3 := by omega
  have K180 : ∀ tg : Int32, ∀ n, n ≤ L → Go p l e ({ frames := 5, cells := 0, slots := 0, locals := 71 } : Room) s m #[.ref sa, .ref ty] below meth c Z "com/example/patterns_to_partitions/patternstopartitions/key/UintKey" n0 (Bn s) (EnN s ({ frames := 5, cells := 0, slots := 0, locals := 71 } : Room) n0 (fun v h => v = some (.long (if st = 0 then x else x + 251)) ∧ h0 = h)) h0 0 0 180 #[.val (.ref sa), .val (.ref ty), .val (.int tg), .val (.int (Int32.ofNat st)), .val (.int (Int32.ofNat L)), .val (.int (Int32.ofNat (st + L))), .val (.long (Int64.ofNat (own_N x / 256 ^ n))), .second, .val (.int (Int32.ofNat (st + (L - n))))] [] := by
    intro tg n
    induction n with
    | zero =>
      intro _
      rw [Nat.pow_zero, Nat.div_one, own_N_of, Nat.sub_zero]
      refine Go.iload C d32_180 rfl (pc' := 182) rfl ?_
      refine Go.iload C d32_182 rfl (pc' := 184) rfl ?_
      refine Go.icmp_ge_t C d32_184 (fun q => absurd ((own_gec _ (by omega) _ (by omega)).mp q) (Nat.lt_irrefl _)) (by decide) (pc' := 209) (by decide) ?_
      refine Go.iloadN C d32_209 rfl (pc' := 210) rfl ?_
      refine Go.if_le C d32_210 (by decide) (pc1 := 240) (by decide) (pc2 := 213) rfl (fun hs => ?_) (fun hs => ?_)
      · have h00 : st = 0 := Nat.eq_zero_of_not_pos fun q => hs ((own_st0 st hst).mpr q)
        refine Go.lload C d32_240 rfl (pc' := 242) rfl ?_
        refine Go.retL C d32_242 (by decide) (by decide) ?_
        exact ⟨by rw [if_pos h00], rfl⟩
      · have h00 : 0 < st := (own_st0 st hst).mp hs
        refine Go.lload C d32_213 rfl (pc' := 215) rfl ?_
        refine Go.ldc2Long C d32_215 (hw _ (List.mem_of_getElem? (i := 226) rfl)) (pc' := 218) rfl ?_
        refine Go.callS C d32_218 (hw _ (List.mem_of_getElem? (i := 53) rfl)) (hw _ (List.mem_of_getElem? (i := 54) rfl)) (hw _ (List.mem_of_getElem? (i := 55) rfl)) (hw _ (List.mem_of_getElem? (i := 56) rfl)) (by decide) (argsL := [(.long x), (.long (-252 : Int64))]) (rest := []) rfl (lenOf pd__JJ_I rfl) rfl (W := 0) (Nat.le_of_ble_eq_true rfl) (Ct.pay (rm_cmu l Z a0 hw x (-252) h0 n0) (hw _ (List.mem_of_getElem? (i := 56) rfl)) (hw _ (List.mem_of_getElem? (i := 55) rfl)) (by decide) (by decide)) (fun _ _ _ q => q.2) (by decide) (by decide) (fun _ _ _ _ _ q => q) (pc' := 221) rfl ?_
        rintro _ _ L3 ⟨⟨⟨r, rfl, -, r2⟩, rfl⟩, -⟩
        show Go p l e ({ frames := 5, cells := 0, slots := 0, locals := 71 } : Room) s m #[.ref sa, .ref ty] below meth c Z "com/example/patterns_to_partitions/patternstopartitions/key/UintKey" n0 (Bn s) (EnN s ({ frames := 5, cells := 0, slots := 0, locals := 71 } : Room) n0 (fun v h => v = some (.long (if st = 0 then x else x + 251)) ∧ h0 = h)) _ _ _ 221 #[.val (.ref sa), .val (.ref ty), .val (.int tg), .val (.int (Int32.ofNat st)), .val (.int (Int32.ofNat L)), .val (.int (Int32.ofNat (st + L))), .val (.long x), .second, .val (.int (Int32.ofNat (st + L)))] [(.int r)]
        rw [own_N252] at r2
        refine Go.if_le_t C d32_221 (fun q => absurd (r2.mp q) (Nat.not_lt.mpr (hmax h00))) (by decide) (pc' := 232) (by decide) ?_
        refine Go.lload C d32_232 rfl (pc' := 234) rfl ?_
        refine Go.ldc2Long C d32_234 (hw _ (List.mem_of_getElem? (i := 52) rfl)) (pc' := 237) rfl ?_
        refine Go.ladd C d32_237 (pc' := 238) rfl ?_
        refine Go.lstore C d32_238 (L' := #[.val (.ref sa), .val (.ref ty), .val (.int tg), .val (.int (Int32.ofNat st)), .val (.int (Int32.ofNat L)), .val (.int (Int32.ofNat (st + L))), .val (.long (x + (251 : Int64))), .second, .val (.int (Int32.ofNat (st + L)))]) rfl (pc' := 240) rfl ?_
        refine Go.lload C d32_240 rfl (pc' := 242) rfl ?_
        refine Go.retL C d32_242 (by decide) (by decide) ?_
        exact ⟨by rw [if_neg (Nat.ne_of_gt h00)], rfl⟩
    | succ n ih =>
      intro hn
      refine Go.iload C d32_180 rfl (pc' := 182) rfl ?_
      refine Go.iload C d32_182 rfl (pc' := 184) rfl ?_
      refine Go.icmp_ge_f C d32_184 ((own_gec _ (by omega) _ (by omega)).mpr (by omega)) (pc' := 187) rfl ?_
      refine Go.lload C d32_187 rfl (pc' := 189) rfl ?_
      refine Go.bipush C d32_189 (v := 8) rfl (pc' := 191) rfl ?_
      refine Go.lshl C d32_191 (pc' := 192) rfl ?_
      refine Go.aloadN C d32_192 rfl rfl (pc' := 193) rfl ?_
      refine Go.aloadN C d32_193 rfl rfl (pc' := 194) rfl ?_
      refine Go.iload C d32_194 rfl (pc' := 196) rfl ?_
      refine Go.callS C d32_196 (hw _ (List.mem_of_getElem? (i := 185) rfl)) (hw _ (List.mem_of_getElem? (i := 186) rfl)) (hw _ (List.mem_of_getElem? (i := 32) rfl)) (hw _ (List.mem_of_getElem? (i := 187) rfl)) (by decide) (argsL := [(.ref sa), (.ref ty), (.int (Int32.ofNat (st + (L - (n + 1)))))]) (rest := [(.long ((Int64.ofNat (own_N x / 256 ^ (n + 1))) <<< ((8 : Int32) &&& 0x3f).toInt64))]) rfl (lenOf pd__Ljava_lang_String_Ljava_lang_String_I_I rfl) rfl (W := 2) (Nat.le_of_ble_eq_true rfl) (Ct.pay (rm_ba l Z a0 hw sa ty t kt bs (st + (L - (n + 1))) z fm h0 n0 S hb (by omega) (by omega) St hz Fm rf O0) (hw _ (List.mem_of_getElem? (i := 187) rfl)) (hw _ (List.mem_of_getElem? (i := 32) rfl)) (by decide) (by decide)) (fun _ _ _ q => q.2) (by decide) (by decide) (fun _ _ _ _ _ q => q) (pc' := 199) rfl ?_
      rintro _ _ L2 ⟨⟨rfl, rfl⟩, -⟩
      show Go p l e ({ frames := 5, cells := 0, slots := 0, locals := 71 } : Room) s m #[.ref sa, .ref ty] below meth c Z "com/example/patterns_to_partitions/patternstopartitions/key/UintKey" n0 (Bn s) (EnN s ({ frames := 5, cells := 0, slots := 0, locals := 71 } : Room) n0 (fun v h => v = some (.long (if st = 0 then x else x + 251)) ∧ h0 = h)) _ _ _ 199 #[.val (.ref sa), .val (.ref ty), .val (.int tg), .val (.int (Int32.ofNat st)), .val (.int (Int32.ofNat L)), .val (.int (Int32.ofNat (st + L))), .val (.long (Int64.ofNat (own_N x / 256 ^ (n + 1)))), .second, .val (.int (Int32.ofNat (st + (L - (n + 1)))))] [(.int (Int32.ofNat (bs.getD (st + (L - (n + 1))) 0))), (.long ((Int64.ofNat (own_N x / 256 ^ (n + 1))) <<< ((8 : Int32) &&& 0x3f).toInt64))]
      refine Go.i2l C d32_199 (pc' := 200) rfl ?_
      refine Go.lor C d32_200 (pc' := 201) rfl ?_
      rw [own_lor _ _ (own_gd bs _ hb), hget n (by omega), own_step]
      show Go p l e ({ frames := 5, cells := 0, slots := 0, locals := 71 } : Room) s m #[.ref sa, .ref ty] below meth c Z "com/example/patterns_to_partitions/patternstopartitions/key/UintKey" n0 (Bn s) (EnN s ({ frames := 5, cells := 0, slots := 0, locals := 71 } : Room) n0 (fun v h => v = some (.long (if st = 0 then x else x + 251)) ∧ h0 = h)) _ _ _ 201 #[.val (.ref sa), .val (.ref ty), .val (.int tg), .val (.int (Int32.ofNat st)), .val (.int (Int32.ofNat L)), .val (.int (Int32.ofNat (st + L))), .val (.long (Int64.ofNat (own_N x / 256 ^ (n + 1)))), .second, .val (.int (Int32.ofNat (st + (L - (n + 1)))))] [(.long (Int64.ofNat (own_N x / 256 ^ n)))]
      refine Go.lstore C d32_201 (L' := #[.val (.ref sa), .val (.ref ty), .val (.int tg), .val (.int (Int32.ofNat st)), .val (.int (Int32.ofNat L)), .val (.int (Int32.ofNat (st + L))), .val (.long (Int64.ofNat (own_N x / 256 ^ n))), .second, .val (.int (Int32.ofNat (st + (L - (n + 1)))))]) rfl (pc' := 203) rfl ?_
      refine Go.iinc C d32_203 rfl (y := ((Int32.ofNat (st + (L - (n + 1)))) + (1 : Int32))) rfl (L' := #[.val (.ref sa), .val (.ref ty), .val (.int tg), .val (.int (Int32.ofNat st)), .val (.int (Int32.ofNat L)), .val (.int (Int32.ofNat (st + L))), .val (.long (Int64.ofNat (own_N x / 256 ^ n))), .second, .val (.int ((Int32.ofNat (st + (L - (n + 1)))) + (1 : Int32)))]) rfl (pc' := 206) rfl ?_
      refine Go.goto C d32_206 (by decide) (pc' := 180) (by decide) ?_
      rw [own_inc, show st + (L - (n + 1)) + 1 = st + (L - n) by omega]
      exact ih (by omega)
  have K174 : ∀ tg : Int32, Go p l e ({ frames := 5, cells := 0, slots := 0, locals := 71 } : Room) s m #[.ref sa, .ref ty] below meth c Z "com/example/patterns_to_partitions/patternstopartitions/key/UintKey" n0 (Bn s) (EnN s ({ frames := 5, cells := 0, slots := 0, locals := 71 } : Room) n0 (fun v h => v = some (.long (if st = 0 then x else x + 251)) ∧ h0 = h)) h0 0 0 174 #[.val (.ref sa), .val (.ref ty), .val (.int tg), .val (.int (Int32.ofNat st)), .val (.int (Int32.ofNat L)), .val (.int (Int32.ofNat (st + L))), .unset, .unset, .unset] [] := by
    intro tg
    refine Go.lconst C d32_174 (v := 0) rfl (pc' := 175) rfl ?_
    refine Go.lstore C d32_175 (L' := #[.val (.ref sa), .val (.ref ty), .val (.int tg), .val (.int (Int32.ofNat st)), .val (.int (Int32.ofNat L)), .val (.int (Int32.ofNat (st + L))), .val (.long (0 : Int64)), .second, .unset]) rfl (pc' := 177) rfl ?_
    refine Go.iloadN C d32_177 rfl (pc' := 178) rfl ?_
    refine Go.istore C d32_178 (L' := #[.val (.ref sa), .val (.ref ty), .val (.int tg), .val (.int (Int32.ofNat st)), .val (.int (Int32.ofNat L)), .val (.int (Int32.ofNat (st + L))), .val (.long (0 : Int64)), .second, .val (.int (Int32.ofNat st))]) rfl (pc' := 180) rfl ?_
    have q := K180 tg L (Nat.le_refl _)
    rw [Nat.div_eq_of_lt hlt, Nat.sub_self] at q
    exact q
  have K119 : ∀ tg : Int32, Go p l e ({ frames := 5, cells := 0, slots := 0, locals := 71 } : Room) s m #[.ref sa, .ref ty] below meth c Z "com/example/patterns_to_partitions/patternstopartitions/key/UintKey" n0 (Bn s) (EnN s ({ frames := 5, cells := 0, slots := 0, locals := 71 } : Room) n0 (fun v h => v = some (.long (if st = 0 then x else x + 251)) ∧ h0 = h)) h0 0 0 119 #[.val (.ref sa), .val (.ref ty), .val (.int tg), .val (.int (Int32.ofNat st)), .val (.int (Int32.ofNat L)), .unset, .unset, .unset, .unset] [] := by
    intro tg
    refine Go.iloadN C d32_119 rfl (pc' := 120) rfl ?_
    refine Go.iload C d32_120 rfl (pc' := 122) rfl ?_
    refine Go.iadd C d32_122 (pc' := 123) rfl ?_
    rw [own_stL st hst L (by omega)]
    show Go p l e ({ frames := 5, cells := 0, slots := 0, locals := 71 } : Room) s m #[.ref sa, .ref ty] below meth c Z "com/example/patterns_to_partitions/patternstopartitions/key/UintKey" n0 (Bn s) (EnN s ({ frames := 5, cells := 0, slots := 0, locals := 71 } : Room) n0 (fun v h => v = some (.long (if st = 0 then x else x + 251)) ∧ h0 = h)) _ _ _ 123 #[.val (.ref sa), .val (.ref ty), .val (.int tg), .val (.int (Int32.ofNat st)), .val (.int (Int32.ofNat L)), .unset, .unset, .unset, .unset] [(.int (Int32.ofNat (st + L)))]
    refine Go.istore C d32_123 (L' := #[.val (.ref sa), .val (.ref ty), .val (.int tg), .val (.int (Int32.ofNat st)), .val (.int (Int32.ofNat L)), .val (.int (Int32.ofNat (st + L))), .unset, .unset, .unset]) rfl (pc' := 125) rfl ?_
    refine Go.aloadN C d32_125 rfl rfl (pc' := 126) rfl ?_
    refine Go.callV C d32_126 (hw _ (List.mem_of_getElem? (i := 175) rfl)) (hw _ (List.mem_of_getElem? (i := 176) rfl)) (hw _ (List.mem_of_getElem? (i := 178) rfl)) (hw _ (List.mem_of_getElem? (i := 177) rfl)) (fun st hZ => notFace_of_selects (args := #[]) (mvT hZ (hw _ (List.mem_of_getElem? (i := 178) rfl)))) (by decide) S.1 (argsL := []) (rest := []) rfl (lenOf pd___I rfl) rfl (W := 0) (Nat.le_of_ble_eq_true rfl) (own_lenP hw S (St.ext O0.2) hz (by decide) (by decide)) (fun _ _ _ q => q.2) (by decide) (by decide) (fun _ _ _ _ _ q => q) (pc' := 129) rfl ?_
    rintro _ _ L1 ⟨⟨rfl, rfl⟩, -⟩
    show Go p l e ({ frames := 5, cells := 0, slots := 0, locals := 71 } : Room) s m #[.ref sa, .ref ty] below meth c Z "com/example/patterns_to_partitions/patternstopartitions/key/UintKey" n0 (Bn s) (EnN s ({ frames := 5, cells := 0, slots := 0, locals := 71 } : Room) n0 (fun v h => v = some (.long (if st = 0 then x else x + 251)) ∧ h0 = h)) _ _ _ 129 #[.val (.ref sa), .val (.ref ty), .val (.int tg), .val (.int (Int32.ofNat st)), .val (.int (Int32.ofNat L)), .val (.int (Int32.ofNat (st + L))), .unset, .unset, .unset] [(.int (Int32.ofNat (own_cs bs).length))]
    rw [own_cs_len]
    show Go p l e ({ frames := 5, cells := 0, slots := 0, locals := 71 } : Room) s m #[.ref sa, .ref ty] below meth c Z "com/example/patterns_to_partitions/patternstopartitions/key/UintKey" n0 (Bn s) (EnN s ({ frames := 5, cells := 0, slots := 0, locals := 71 } : Room) n0 (fun v h => v = some (.long (if st = 0 then x else x + 251)) ∧ h0 = h)) _ _ _ 129 #[.val (.ref sa), .val (.ref ty), .val (.int tg), .val (.int (Int32.ofNat st)), .val (.int (Int32.ofNat L)), .val (.int (Int32.ofNat (st + L))), .unset, .unset, .unset] [(.int (Int32.ofNat (2 * bs.length)))]
    refine Go.iconst C d32_129 (v := 2) rfl (pc' := 130) rfl ?_
    refine Go.iload C d32_130 rfl (pc' := 132) rfl ?_
    refine Go.imul C d32_132 (pc' := 133) rfl ?_
    rw [own_2e (st + L) (by omega)]
    show Go p l e ({ frames := 5, cells := 0, slots := 0, locals := 71 } : Room) s m #[.ref sa, .ref ty] below meth c Z "com/example/patterns_to_partitions/patternstopartitions/key/UintKey" n0 (Bn s) (EnN s ({ frames := 5, cells := 0, slots := 0, locals := 71 } : Room) n0 (fun v h => v = some (.long (if st = 0 then x else x + 251)) ∧ h0 = h)) _ _ _ 133 #[.val (.ref sa), .val (.ref ty), .val (.int tg), .val (.int (Int32.ofNat st)), .val (.int (Int32.ofNat L)), .val (.int (Int32.ofNat (st + L))), .unset, .unset, .unset] [(.int (Int32.ofNat (2 * (st + L)))), (.int (Int32.ofNat (2 * bs.length)))]
    refine Go.icmp_eq_t C d32_133 (by rw [hlen]) (by decide) (pc' := 151) (by decide) ?_
    refine Go.iload C d32_151 rfl (pc' := 153) rfl ?_
    refine Go.iconst C d32_153 (v := 1) rfl (pc' := 154) rfl ?_
    refine Go.icmp_le C d32_154 (by decide) (pc1 := 174) (by decide) (pc2 := 157) rfl (fun hc => ?_) (fun hc => ?_)
    · exact K174 tg
    · have h1 : 1 < L := Decidable.byContradiction fun q => ((own_gt1 L (by omega)).mpr q) hc
      refine Go.aloadN C d32_157 rfl rfl (pc' := 158) rfl ?_
      refine Go.aloadN C d32_158 rfl rfl (pc' := 159) rfl ?_
      refine Go.iloadN C d32_159 rfl (pc' := 160) rfl ?_
      refine Go.callS C d32_160 (hw _ (List.mem_of_getElem? (i := 185) rfl)) (hw _ (List.mem_of_getElem? (i := 186) rfl)) (hw _ (List.mem_of_getElem? (i := 32) rfl)) (hw _ (List.mem_of_getElem? (i := 187) rfl)) (by decide) (argsL := [(.ref sa), (.ref ty), (.int (Int32.ofNat st))]) (rest := []) rfl (lenOf pd__Ljava_lang_String_Ljava_lang_String_I_I rfl) rfl (W := 0) (Nat.le_of_ble_eq_true rfl) (Ct.pay (rm_ba l Z a0 hw sa ty t kt bs st z fm h0 n0 S hb (by omega) (by omega) St hz Fm rf O0) (hw _ (List.mem_of_getElem? (i := 187) rfl)) (hw _ (List.mem_of_getElem? (i := 32) rfl)) (by decide) (by decide)) (fun _ _ _ q => q.2) (by decide) (by decide) (fun _ _ _ _ _ q => q) (pc' := 163) rfl ?_
      rintro _ _ L2 ⟨⟨rfl, rfl⟩, -⟩
      show Go p l e ({ frames := 5, cells := 0, slots := 0, locals := 71 } : Room) s m #[.ref sa, .ref ty] below meth c Z "com/example/patterns_to_partitions/patternstopartitions/key/UintKey" n0 (Bn s) (EnN s ({ frames := 5, cells := 0, slots := 0, locals := 71 } : Room) n0 (fun v h => v = some (.long (if st = 0 then x else x + 251)) ∧ h0 = h)) _ _ _ 163 #[.val (.ref sa), .val (.ref ty), .val (.int tg), .val (.int (Int32.ofNat st)), .val (.int (Int32.ofNat L)), .val (.int (Int32.ofNat (st + L))), .unset, .unset, .unset] [(.int (Int32.ofNat (bs.getD st 0)))]
      have h2 := hget (L - 1) (by omega)
      rw [show L - (L - 1 + 1) = 0 by omega, Nat.add_zero] at h2
      refine Go.if_ne_t C d32_163 (own_nz8 _ (own_gd bs _ hb) (by rw [h2]; exact own_first hlt hmin h1)) (by decide) (pc' := 174) (by decide) ?_
      exact K174 tg
  refine Go.aloadN C d32_0 rfl rfl (pc' := 1) rfl ?_
  refine Go.callV C d32_1 (hw _ (List.mem_of_getElem? (i := 170) rfl)) (hw _ (List.mem_of_getElem? (i := 171) rfl)) (hw _ (List.mem_of_getElem? (i := 173) rfl)) (hw _ (List.mem_of_getElem? (i := 172) rfl)) (fun st hZ => notFace_of_selects (args := #[]) (mvT hZ (hw _ (List.mem_of_getElem? (i := 173) rfl)))) (by decide) S.1 (argsL := []) (rest := []) rfl (lenOf pd___Z rfl) rfl (W := 0) (Nat.le_of_ble_eq_true rfl) (Ct.pay (rm_emp l Z a0 hw sa t kt (own_cs bs) h0 n0 S (by rw [own_cs_len]; exact own_nz _ (by omega) (by omega))) (hw _ (List.mem_of_getElem? (i := 174) rfl)) (hw _ (List.mem_of_getElem? (i := 3) rfl)) (by decide) (by decide)) (fun _ _ _ q => q.2) (by decide) (by decide) (fun _ _ _ _ _ q => q) (pc' := 4) rfl ?_
  rintro _ _ L0 ⟨⟨rfl, rfl⟩, -⟩
  show Go p l e ({ frames := 5, cells := 0, slots := 0, locals := 71 } : Room) s m #[.ref sa, .ref ty] below meth c Z "com/example/patterns_to_partitions/patternstopartitions/key/UintKey" n0 (Bn s) (EnN s ({ frames := 5, cells := 0, slots := 0, locals := 71 } : Room) n0 (fun v h => v = some (.long (if st = 0 then x else x + 251)) ∧ h0 = h)) _ _ _ 4 #[.val (.ref sa), .val (.ref ty), .unset, .unset, .unset, .unset, .unset, .unset, .unset] [(.int (0 : Int32))]
  refine Go.if_ne_f C d32_4 rfl (pc' := 7) rfl ?_
  refine Go.aloadN C d32_7 rfl rfl (pc' := 8) rfl ?_
  refine Go.callV C d32_8 (hw _ (List.mem_of_getElem? (i := 175) rfl)) (hw _ (List.mem_of_getElem? (i := 176) rfl)) (hw _ (List.mem_of_getElem? (i := 178) rfl)) (hw _ (List.mem_of_getElem? (i := 177) rfl)) (fun st hZ => notFace_of_selects (args := #[]) (mvT hZ (hw _ (List.mem_of_getElem? (i := 178) rfl)))) (by decide) S.1 (argsL := []) (rest := []) rfl (lenOf pd___I rfl) rfl (W := 0) (Nat.le_of_ble_eq_true rfl) (own_lenP hw S (St.ext O0.2) hz (by decide) (by decide)) (fun _ _ _ q => q.2) (by decide) (by decide) (fun _ _ _ _ _ q => q) (pc' := 11) rfl ?_
  rintro _ _ L1 ⟨⟨rfl, rfl⟩, -⟩
  show Go p l e ({ frames := 5, cells := 0, slots := 0, locals := 71 } : Room) s m #[.ref sa, .ref ty] below meth c Z "com/example/patterns_to_partitions/patternstopartitions/key/UintKey" n0 (Bn s) (EnN s ({ frames := 5, cells := 0, slots := 0, locals := 71 } : Room) n0 (fun v h => v = some (.long (if st = 0 then x else x + 251)) ∧ h0 = h)) _ _ _ 11 #[.val (.ref sa), .val (.ref ty), .unset, .unset, .unset, .unset, .unset, .unset, .unset] [(.int (Int32.ofNat (own_cs bs).length))]
  rw [own_cs_len]
  show Go p l e ({ frames := 5, cells := 0, slots := 0, locals := 71 } : Room) s m #[.ref sa, .ref ty] below meth c Z "com/example/patterns_to_partitions/patternstopartitions/key/UintKey" n0 (Bn s) (EnN s ({ frames := 5, cells := 0, slots := 0, locals := 71 } : Room) n0 (fun v h => v = some (.long (if st = 0 then x else x + 251)) ∧ h0 = h)) _ _ _ 11 #[.val (.ref sa), .val (.ref ty), .unset, .unset, .unset, .unset, .unset, .unset, .unset] [(.int (Int32.ofNat (2 * bs.length)))]
  refine Go.iconst C d32_11 (v := 2) rfl (pc' := 12) rfl ?_
  refine Go.irem C d32_12 (by decide) (pc' := 13) rfl ?_
  refine Go.if_eq_t C d32_13 (own_ev _ (by omega)) (by decide) (pc' := 24) (by decide) ?_
  refine Go.aloadN C d32_24 rfl rfl (pc' := 25) rfl ?_
  refine Go.aloadN C d32_25 rfl rfl (pc' := 26) rfl ?_
  refine Go.iconst C d32_26 (v := 0) rfl (pc' := 27) rfl ?_
  show Go p l e ({ frames := 5, cells := 0, slots := 0, locals := 71 } : Room) s m #[.ref sa, .ref ty] below meth c Z "com/example/patterns_to_partitions/patternstopartitions/key/UintKey" n0 (Bn s) (EnN s ({ frames := 5, cells := 0, slots := 0, locals := 71 } : Room) n0 (fun v h => v = some (.long (if st = 0 then x else x + 251)) ∧ h0 = h)) h0 0 0 27 #[.val (.ref sa), .val (.ref ty), .unset, .unset, .unset, .unset, .unset, .unset, .unset] [(.int (Int32.ofNat 0)), (.ref ty), (.ref sa)]
  refine Go.callS C d32_27 (hw _ (List.mem_of_getElem? (i := 185) rfl)) (hw _ (List.mem_of_getElem? (i := 186) rfl)) (hw _ (List.mem_of_getElem? (i := 32) rfl)) (hw _ (List.mem_of_getElem? (i := 187) rfl)) (by decide) (argsL := [(.ref sa), (.ref ty), (.int (Int32.ofNat 0))]) (rest := []) rfl (lenOf pd__Ljava_lang_String_Ljava_lang_String_I_I rfl) rfl (W := 0) (Nat.le_of_ble_eq_true rfl) (Ct.pay (rm_ba l Z a0 hw sa ty t kt bs 0 z fm h0 n0 S hb (by omega) (by omega) St hz Fm rf O0) (hw _ (List.mem_of_getElem? (i := 187) rfl)) (hw _ (List.mem_of_getElem? (i := 32) rfl)) (by decide) (by decide)) (fun _ _ _ q => q.2) (by decide) (by decide) (fun _ _ _ _ _ q => q) (pc' := 30) rfl ?_
  rintro _ _ L2 ⟨⟨rfl, rfl⟩, -⟩
  show Go p l e ({ frames := 5, cells := 0, slots := 0, locals := 71 } : Room) s m #[.ref sa, .ref ty] below meth c Z "com/example/patterns_to_partitions/patternstopartitions/key/UintKey" n0 (Bn s) (EnN s ({ frames := 5, cells := 0, slots := 0, locals := 71 } : Room) n0 (fun v h => v = some (.long (if st = 0 then x else x + 251)) ∧ h0 = h)) _ _ _ 30 #[.val (.ref sa), .val (.ref ty), .unset, .unset, .unset, .unset, .unset, .unset, .unset] [(.int (Int32.ofNat (bs.getD 0 0)))]
  rcases hsh with ⟨e1, e2, e3⟩ | ⟨e1, e2, e3⟩ | ⟨e1, e2, e3, e4⟩
  · subst e1 e2
    refine Go.istoreN C d32_30 (L' := #[.val (.ref sa), .val (.ref ty), .val (.int (Int32.ofNat (bs.getD 0 0))), .unset, .unset, .unset, .unset, .unset, .unset]) rfl (pc' := 31) rfl ?_
    refine Go.iloadN C d32_31 rfl (pc' := 32) rfl ?_
    refine Go.sipush C d32_32 (v := 251) rfl (pc' := 35) rfl ?_
    refine Go.icmp_ge_f C d32_35 (own_t1 _ e3) (pc' := 38) rfl ?_
    refine Go.iconst C d32_38 (v := 0) rfl (pc' := 39) rfl ?_
    refine Go.istoreN C d32_39 (L' := #[.val (.ref sa), .val (.ref ty), .val (.int (Int32.ofNat (bs.getD 0 0))), .val (.int (0 : Int32)), .unset, .unset, .unset, .unset, .unset]) rfl (pc' := 40) rfl ?_
    refine Go.iconst C d32_40 (v := 1) rfl (pc' := 41) rfl ?_
    refine Go.istore C d32_41 (L' := #[.val (.ref sa), .val (.ref ty), .val (.int (Int32.ofNat (bs.getD 0 0))), .val (.int (0 : Int32)), .val (.int (1 : Int32)), .unset, .unset, .unset, .unset]) rfl (pc' := 43) rfl ?_
    refine Go.goto C d32_43 (by decide) (pc' := 119) (by decide) ?_
    exact K119 _
  · rw [e3]
    show Go p l e ({ frames := 5, cells := 0, slots := 0, locals := 71 } : Room) s m #[.ref sa, .ref ty] below meth c Z "com/example/patterns_to_partitions/patternstopartitions/key/UintKey" n0 (Bn s) (EnN s ({ frames := 5, cells := 0, slots := 0, locals := 71 } : Room) n0 (fun v h => v = some (.long (if st = 0 then x else x + 251)) ∧ h0 = h)) _ _ _ 30 #[.val (.ref sa), .val (.ref ty), .unset, .unset, .unset, .unset, .unset, .unset, .unset] [(.int (Int32.ofNat (250 + L)))]
    refine Go.istoreN C d32_30 (L' := #[.val (.ref sa), .val (.ref ty), .val (.int (Int32.ofNat (250 + L))), .unset, .unset, .unset, .unset, .unset, .unset]) rfl (pc' := 31) rfl ?_
    refine Go.iloadN C d32_31 rfl (pc' := 32) rfl ?_
    refine Go.sipush C d32_32 (v := 251) rfl (pc' := 35) rfl ?_
    refine Go.icmp_ge_t C d32_35 (own_t2 L (by omega) (by omega)).1 (by decide) (pc' := 46) (by decide) ?_
    refine Go.iloadN C d32_46 rfl (pc' := 47) rfl ?_
    refine Go.sipush C d32_47 (v := 255) rfl (pc' := 50) rfl ?_
    refine Go.icmp_ge_f C d32_50 (own_t2 L (by omega) (by omega)).2 (pc' := 53) rfl ?_
    refine Go.iconst C d32_53 (v := 1) rfl (pc' := 54) rfl ?_
    refine Go.istoreN C d32_54 (L' := #[.val (.ref sa), .val (.ref ty), .val (.int (Int32.ofNat (250 + L))), .val (.int (1 : Int32)), .unset, .unset, .unset, .unset, .unset]) rfl (pc' := 55) rfl ?_
    refine Go.iloadN C d32_55 rfl (pc' := 56) rfl ?_
    refine Go.sipush C d32_56 (v := 251) rfl (pc' := 59) rfl ?_
    refine Go.isub C d32_59 (pc' := 60) rfl ?_
    refine Go.iconst C d32_60 (v := 1) rfl (pc' := 61) rfl ?_
    refine Go.iadd C d32_61 (pc' := 62) rfl ?_
    rw [own_tl L (by omega) (by omega)]
    show Go p l e ({ frames := 5, cells := 0, slots := 0, locals := 71 } : Room) s m #[.ref sa, .ref ty] below meth c Z "com/example/patterns_to_partitions/patternstopartitions/key/UintKey" n0 (Bn s) (EnN s ({ frames := 5, cells := 0, slots := 0, locals := 71 } : Room) n0 (fun v h => v = some (.long (if st = 0 then x else x + 251)) ∧ h0 = h)) _ _ _ 62 #[.val (.ref sa), .val (.ref ty), .val (.int (Int32.ofNat (250 + L))), .val (.int (1 : Int32)), .unset, .unset, .unset, .unset, .unset] [(.int (Int32.ofNat L))]
    refine Go.istore C d32_62 (L' := #[.val (.ref sa), .val (.ref ty), .val (.int (Int32.ofNat (250 + L))), .val (.int (1 : Int32)), .val (.int (Int32.ofNat L)), .unset, .unset, .unset, .unset]) rfl (pc' := 64) rfl ?_
    refine Go.goto C d32_64 (by decide) (pc' := 119) (by decide) ?_
    subst e1
    exact K119 _
  · rw [e3]
    show Go p l e ({ frames := 5, cells := 0, slots := 0, locals := 71 } : Room) s m #[.ref sa, .ref ty] below meth c Z "com/example/patterns_to_partitions/patternstopartitions/key/UintKey" n0 (Bn s) (EnN s ({ frames := 5, cells := 0, slots := 0, locals := 71 } : Room) n0 (fun v h => v = some (.long (if st = 0 then x else x + 251)) ∧ h0 = h)) _ _ _ 30 #[.val (.ref sa), .val (.ref ty), .unset, .unset, .unset, .unset, .unset, .unset, .unset] [(.int (Int32.ofNat 255))]
    refine Go.istoreN C d32_30 (L' := #[.val (.ref sa), .val (.ref ty), .val (.int (Int32.ofNat 255)), .unset, .unset, .unset, .unset, .unset, .unset]) rfl (pc' := 31) rfl ?_
    refine Go.iloadN C d32_31 rfl (pc' := 32) rfl ?_
    refine Go.sipush C d32_32 (v := 251) rfl (pc' := 35) rfl ?_
    refine Go.icmp_ge_t C d32_35 (by decide) (by decide) (pc' := 46) (by decide) ?_
    refine Go.iloadN C d32_46 rfl (pc' := 47) rfl ?_
    refine Go.sipush C d32_47 (v := 255) rfl (pc' := 50) rfl ?_
    refine Go.icmp_ge_t C d32_50 (by decide) (by decide) (pc' := 67) (by decide) ?_
    refine Go.aloadN C d32_67 rfl rfl (pc' := 68) rfl ?_
    refine Go.callV C d32_68 (hw _ (List.mem_of_getElem? (i := 175) rfl)) (hw _ (List.mem_of_getElem? (i := 176) rfl)) (hw _ (List.mem_of_getElem? (i := 178) rfl)) (hw _ (List.mem_of_getElem? (i := 177) rfl)) (fun st hZ => notFace_of_selects (args := #[]) (mvT hZ (hw _ (List.mem_of_getElem? (i := 178) rfl)))) (by decide) S.1 (argsL := []) (rest := []) rfl (lenOf pd___I rfl) rfl (W := 0) (Nat.le_of_ble_eq_true rfl) (own_lenP hw S (St.ext O0.2) hz (by decide) (by decide)) (fun _ _ _ q => q.2) (by decide) (by decide) (fun _ _ _ _ _ q => q) (pc' := 71) rfl ?_
    rintro _ _ L1 ⟨⟨rfl, rfl⟩, -⟩
    show Go p l e ({ frames := 5, cells := 0, slots := 0, locals := 71 } : Room) s m #[.ref sa, .ref ty] below meth c Z "com/example/patterns_to_partitions/patternstopartitions/key/UintKey" n0 (Bn s) (EnN s ({ frames := 5, cells := 0, slots := 0, locals := 71 } : Room) n0 (fun v h => v = some (.long (if st = 0 then x else x + 251)) ∧ h0 = h)) _ _ _ 71 #[.val (.ref sa), .val (.ref ty), .val (.int (Int32.ofNat 255)), .unset, .unset, .unset, .unset, .unset, .unset] [(.int (Int32.ofNat (own_cs bs).length))]
    rw [own_cs_len]
    show Go p l e ({ frames := 5, cells := 0, slots := 0, locals := 71 } : Room) s m #[.ref sa, .ref ty] below meth c Z "com/example/patterns_to_partitions/patternstopartitions/key/UintKey" n0 (Bn s) (EnN s ({ frames := 5, cells := 0, slots := 0, locals := 71 } : Room) n0 (fun v h => v = some (.long (if st = 0 then x else x + 251)) ∧ h0 = h)) _ _ _ 71 #[.val (.ref sa), .val (.ref ty), .val (.int (Int32.ofNat 255)), .unset, .unset, .unset, .unset, .unset, .unset] [(.int (Int32.ofNat (2 * bs.length)))]
    refine Go.iconst C d32_71 (v := 4) rfl (pc' := 72) rfl ?_
    refine Go.icmp_ge_t C d32_72 (own_ge4 _ (by omega) (by omega)) (by decide) (pc' := 83) (by decide) ?_
    refine Go.iconst C d32_83 (v := 2) rfl (pc' := 84) rfl ?_
    refine Go.istoreN C d32_84 (L' := #[.val (.ref sa), .val (.ref ty), .val (.int (Int32.ofNat 255)), .val (.int (2 : Int32)), .unset, .unset, .unset, .unset, .unset]) rfl (pc' := 85) rfl ?_
    refine Go.aloadN C d32_85 rfl rfl (pc' := 86) rfl ?_
    refine Go.aloadN C d32_86 rfl rfl (pc' := 87) rfl ?_
    refine Go.iconst C d32_87 (v := 1) rfl (pc' := 88) rfl ?_
    show Go p l e ({ frames := 5, cells := 0, slots := 0, locals := 71 } : Room) s m #[.ref sa, .ref ty] below meth c Z "com/example/patterns_to_partitions/patternstopartitions/key/UintKey" n0 (Bn s) (EnN s ({ frames := 5, cells := 0, slots := 0, locals := 71 } : Room) n0 (fun v h => v = some (.long (if st = 0 then x else x + 251)) ∧ h0 = h)) h0 0 0 88 #[.val (.ref sa), .val (.ref ty), .val (.int (Int32.ofNat 255)), .val (.int (2 : Int32)), .unset, .unset, .unset, .unset, .unset] [(.int (Int32.ofNat 1)), (.ref ty), (.ref sa)]
    refine Go.callS C d32_88 (hw _ (List.mem_of_getElem? (i := 185) rfl)) (hw _ (List.mem_of_getElem? (i := 186) rfl)) (hw _ (List.mem_of_getElem? (i := 32) rfl)) (hw _ (List.mem_of_getElem? (i := 187) rfl)) (by decide) (argsL := [(.ref sa), (.ref ty), (.int (Int32.ofNat 1))]) (rest := []) rfl (lenOf pd__Ljava_lang_String_Ljava_lang_String_I_I rfl) rfl (W := 0) (Nat.le_of_ble_eq_true rfl) (Ct.pay (rm_ba l Z a0 hw sa ty t kt bs 1 z fm h0 n0 S hb (by omega) (by omega) St hz Fm rf O0) (hw _ (List.mem_of_getElem? (i := 187) rfl)) (hw _ (List.mem_of_getElem? (i := 32) rfl)) (by decide) (by decide)) (fun _ _ _ q => q.2) (by decide) (by decide) (fun _ _ _ _ _ q => q) (pc' := 91) rfl ?_
    rintro _ _ L2 ⟨⟨rfl, rfl⟩, -⟩
    show Go p l e ({ frames := 5, cells := 0, slots := 0, locals := 71 } : Room) s m #[.ref sa, .ref ty] below meth c Z "com/example/patterns_to_partitions/patternstopartitions/key/UintKey" n0 (Bn s) (EnN s ({ frames := 5, cells := 0, slots := 0, locals := 71 } : Room) n0 (fun v h => v = some (.long (if st = 0 then x else x + 251)) ∧ h0 = h)) _ _ _ 91 #[.val (.ref sa), .val (.ref ty), .val (.int (Int32.ofNat 255)), .val (.int (2 : Int32)), .unset, .unset, .unset, .unset, .unset] [(.int (Int32.ofNat (bs.getD 1 0)))]
    rw [e4]
    show Go p l e ({ frames := 5, cells := 0, slots := 0, locals := 71 } : Room) s m #[.ref sa, .ref ty] below meth c Z "com/example/patterns_to_partitions/patternstopartitions/key/UintKey" n0 (Bn s) (EnN s ({ frames := 5, cells := 0, slots := 0, locals := 71 } : Room) n0 (fun v h => v = some (.long (if st = 0 then x else x + 251)) ∧ h0 = h)) _ _ _ 91 #[.val (.ref sa), .val (.ref ty), .val (.int (Int32.ofNat 255)), .val (.int (2 : Int32)), .unset, .unset, .unset, .unset, .unset] [(.int (Int32.ofNat L))]
    refine Go.istore C d32_91 (L' := #[.val (.ref sa), .val (.ref ty), .val (.int (Int32.ofNat 255)), .val (.int (2 : Int32)), .val (.int (Int32.ofNat L)), .unset, .unset, .unset, .unset]) rfl (pc' := 93) rfl ?_
    refine Go.iload C d32_93 rfl (pc' := 95) rfl ?_
    refine Go.iconst C d32_95 (v := 4) rfl (pc' := 96) rfl ?_
    refine Go.icmp_le_f C d32_96 (own_t3 L (by omega) e2).1 (pc' := 99) rfl ?_
    refine Go.iload C d32_99 rfl (pc' := 101) rfl ?_
    refine Go.bipush C d32_101 (v := 8) rfl (pc' := 103) rfl ?_
    refine Go.icmp_le_t C d32_103 (own_t3 L (by omega) e2).2 (by decide) (pc' := 119) (by decide) ?_
    subst e1
    exact K119 _
set_option maxRecDepth 65536 in
set_option maxHeartbeats 40000000 in
theorem rm_law (l : Launch) (Z : State) (a0 : Array Value) (hw : ∀ d ∈ tables_1, d.before a0 Z = true) (x0 : Int64) (x1 x2 z : Int32) (T : own_T) (fm : Value) (h0 : Heap) (n0 : Nat) (Z0 : n0 ≤ h0.size) (H : own_H Z T) (St : Sta Z Z.heap "java/lang/String" "COMPACT_STRINGS" "Z" (.int z)) (hz : ¬ z = 0) (Fm : Sta Z Z.heap "jdk/internal/util/Preconditions" "SIOOBE_FORMATTER" "Ljava/util/function/BiFunction;" fm) (rf : fm.isRef = true) (O0 : Old Z n0 h0) :
    CtW l Z [] [] x code 11 (some .boolean) tables_1 room_1 #[.long x0, .int x1, .int x2] h0 n0 (fun v _ => v = some (.int 1)) := by
  refine CtW.of (L0 := #[.val (.long x0), .second, .val (.int x1), .val (.int x2), .unset, .unset, .unset, .unset, .unset, .unset, .unset]) (plainFor_of_name pn_com_example_patterns_to_partitions_patternstopartitions_key_UintKeyDecodePinLaw) (fun m => by first | (simp [entryFrame, mkF, argsToLocals, Value.category]; done) | rfl) ?_
  intro p e s m below meth c C hnm
  have hEL := own_ew (Z := Z) (a0 := a0) hw
  refine Go.lloadN C at_0 rfl (pc' := 1) rfl ?_
  refine Go.iloadN C at_1 rfl (pc' := 2) rfl ?_
  refine Go.bipush C at_2 (v := 63) rfl (pc' := 4) rfl ?_
  refine Go.iand C at_4 (pc' := 5) rfl ?_
  refine Go.lushr C at_5 (pc' := 6) rfl ?_
  obtain ⟨v, ev⟩ : ∃ v, v = (x0.toUInt64 >>> ((x1 &&& (63 : Int32)) &&& 0x3f).toInt64.toUInt64).toInt64 := ⟨_, rfl⟩
  rw [← ev]
  show Go p l e room_1 s m #[.long x0, .int x1, .int x2] below meth c Z "com/example/patterns_to_partitions/patternstopartitions/key/UintKeyDecodePinLaw" n0 _ (EnW s room_1 n0 Z [] (fun v _ => v = some (.int 1))) _ _ _ 6 #[.val (.long x0), .second, .val (.int x1), .val (.int x2), .unset, .unset, .unset, .unset, .unset, .unset, .unset] [(.long v)]
  refine Go.lstore C at_6 (L' := #[.val (.long x0), .second, .val (.int x1), .val (.int x2), .val (.long v), .second, .unset, .unset, .unset, .unset, .unset]) rfl (pc' := 8) rfl ?_
  refine Go.iconst C at_8 (v := 2) rfl (pc' := 9) rfl ?_
  refine Go.newPV C bw0N at_9 (hw _ (List.mem_of_getElem? (i := 0) rfl)) (by decide) (cap := 2) (by decide) (by decide) (by decide) (by decide) (pc' := 11) rfl (dv := .int 0) rfl ?_
  intro h1 kC E1 V1
  obtain ⟨ca, e_ca⟩ : ∃ a, a = h0.size := ⟨_, rfl⟩
  rw [← e_ca] at V1 ⊢
  show Go p l e room_1 s m #[.long x0, .int x1, .int x2] below meth c Z "com/example/patterns_to_partitions/patternstopartitions/key/UintKeyDecodePinLaw" n0 _ (EnW s room_1 n0 Z [] (fun v _ => v = some (.int 1))) _ _ _ 11 #[.val (.long x0), .second, .val (.int x1), .val (.int x2), .val (.long v), .second, .unset, .unset, .unset, .unset, .unset] [(.ref ca)]
  have nca : n0 ≤ ca := e_ca ▸ Z0
  have O1 := O0.ext E1
  refine Go.dup C at_11 rfl (pc' := 12) rfl ?_
  refine Go.iconst C at_12 (v := 0) rfl (pc' := 13) rfl ?_
  refine Go.iloadN C at_13 rfl (pc' := 14) rfl ?_
  refine Go.sipush C at_14 (v := 255) rfl (pc' := 17) rfl ?_
  refine Go.iand C at_17 (pc' := 18) rfl ?_
  refine Go.i2c C at_18 (pc' := 19) rfl ?_
  rw [i2c_mask]
  show Go p l e room_1 s m #[.long x0, .int x1, .int x2] below meth c Z "com/example/patterns_to_partitions/patternstopartitions/key/UintKeyDecodePinLaw" n0 _ (EnW s room_1 n0 Z [] (fun v _ => v = some (.int 1))) _ _ _ 19 #[.val (.long x0), .second, .val (.int x1), .val (.int x2), .val (.long v), .second, .unset, .unset, .unset, .unset, .unset] [(.int (x2 &&& (255 : Int32))), (.int (0 : Int32)), (.ref ca), (.ref ca)]
  refine Go.castoreV C at_19 V1 (by decide) (by decide) 0 (by decide) (Nat.le_of_ble_eq_true rfl) nca (fun _ _ W q => Bw.any (Keep.of_wr W) q) (pc' := 20) rfl ?_
  intro h2 W2 V2
  rw [own_nc] at V2
  have O2 := O1.wr W2 nca
  have K2 := ((Keep.refl h0 []).ext E1).wr W2 (Or.inr (Nat.le_of_eq e_ca.symm))
  refine Go.dup C at_20 rfl (pc' := 21) rfl ?_
  refine Go.iconst C at_21 (v := 1) rfl (pc' := 22) rfl ?_
  refine Go.iloadN C at_22 rfl (pc' := 23) rfl ?_
  refine Go.bipush C at_23 (v := 8) rfl (pc' := 25) rfl ?_
  refine Go.iushr C at_25 (pc' := 26) rfl ?_
  refine Go.sipush C at_26 (v := 255) rfl (pc' := 29) rfl ?_
  refine Go.iand C at_29 (pc' := 30) rfl ?_
  refine Go.i2c C at_30 (pc' := 31) rfl ?_
  rw [i2c_mask]
  show Go p l e room_1 s m #[.long x0, .int x1, .int x2] below meth c Z "com/example/patterns_to_partitions/patternstopartitions/key/UintKeyDecodePinLaw" n0 _ (EnW s room_1 n0 Z [] (fun v _ => v = some (.int 1))) _ _ _ 31 #[.val (.long x0), .second, .val (.int x1), .val (.int x2), .val (.long v), .second, .unset, .unset, .unset, .unset, .unset] [(.int ((x2.toUInt32 >>> ((8 : Int32) &&& 31).toUInt32).toInt32 &&& (255 : Int32))), (.int (1 : Int32)), (.ref ca), (.ref ca)]
  refine Go.castoreV C at_31 V2 (by decide) (by decide) 1 (by decide) (Nat.le_of_ble_eq_true rfl) nca (fun _ _ W q => Bw.any (Keep.of_wr W) q) (pc' := 32) rfl ?_
  intro h3 W3 V3
  rw [own_nc] at V3
  have O3 := O2.wr W3 nca
  have K3 := K2.wr W3 (Or.inr (Nat.le_of_eq e_ca.symm))
  refine Go.astore C at_32 rfl (L' := #[.val (.long x0), .second, .val (.int x1), .val (.int x2), .val (.long v), .second, .val (.ref ca), .unset, .unset, .unset, .unset]) rfl (pc' := 34) rfl ?_
  refine Go.newO C bw0N at_34 (hw _ (List.mem_of_getElem? (i := 1) rfl)) (hw _ (List.mem_of_getElem? (i := 2) rfl)) (hw _ (List.mem_of_getElem? (i := 3) rfl)) (by decide) (by decide) (pc' := 37) rfl ?_
  intro h4 E4 A4 D4 U4
  obtain ⟨ta, e_ta⟩ : ∃ a, a = h3.size := ⟨_, rfl⟩
  rw [← e_ta] at A4 D4 U4 ⊢
  show Go p l e room_1 s m #[.long x0, .int x1, .int x2] below meth c Z "com/example/patterns_to_partitions/patternstopartitions/key/UintKeyDecodePinLaw" n0 _ (EnW s room_1 n0 Z [] (fun v _ => v = some (.int 1))) _ _ _ 37 #[.val (.long x0), .second, .val (.int x1), .val (.int x2), .val (.long v), .second, .val (.ref ca), .unset, .unset, .unset, .unset] [(.ref ta)]
  have nta : n0 ≤ ta := e_ta ▸ Nat.le_trans Z0 K3.1
  have O4 := O3.ext E4
  have Z4 : n0 ≤ h4.size := Nat.le_trans Z0 (Nat.le_trans K3.1 E4.1)
  have Fc := D4 (Or.inr (hw _ (List.mem_of_getElem? (i := 27) rfl))) (ty := .byte) (by decide)
  have Fv := D4 (Or.inr (hw _ (List.mem_of_getElem? (i := 29) rfl))) (ty := (.array .byte)) (by decide)
  have V4 : Arv Z h4 ca kC .char (Int32.ofNat ([x2 &&& 255, (x2.toUInt32 >>> ((8 : Int32) &&& 31).toUInt32).toInt32 &&& 255] : List Int32).length) (([x2 &&& 255, (x2.toUInt32 >>> ((8 : Int32) &&& 31).toUInt32).toInt32 &&& 255] : List Int32).map Value.int) (.int 0) := V3.ext E4
  refine Go.dup C at_37 rfl (pc' := 38) rfl ?_
  refine Go.aload C at_38 rfl rfl (pc' := 40) rfl ?_
  refine Go.callN C at_40 rfl (hw _ (List.mem_of_getElem? (i := 4) rfl)) (hw _ (List.mem_of_getElem? (i := 5) rfl)) (hw _ (List.mem_of_getElem? (i := 6) rfl)) (by decide) (argsL := [(.ref ca)]) (rest := [(.ref ta)]) rfl (lenOf pd___C_V rfl) rfl (W := 1) (Nat.le_of_ble_eq_true rfl) (own_newP (cs := [x2 &&& 255, (x2.toUInt32 >>> ((8 : Int32) &&& 31).toUInt32).toInt32 &&& 255]) hw nta Z4 A4 Fv Fc V4 (St.ext O4.2) hz (by simp) (by simp) (by intro c hc; simp only [List.mem_cons, List.not_mem_nil, or_false] at hc; rcases hc with rfl | rfl <;> exact own_255 _) (by decide) (by decide)) (fun _ _ _ q => q.2) (by decide) (Nat.le_of_ble_eq_true rfl) (fun _ _ _ _ q b => by obtain ⟨⟨_, K, _⟩, _⟩ := q; exact Bw.any K b) (pc' := 43) rfl ?_
  rintro _ h5 L5 ⟨⟨rfl, K5, t5, kb5, -, S5⟩, -⟩
  show Go p l e room_1 s m #[.long x0, .int x1, .int x2] below meth c Z "com/example/patterns_to_partitions/patternstopartitions/key/UintKeyDecodePinLaw" n0 _ (EnW s room_1 n0 Z [] (fun v _ => v = some (.int 1))) _ _ _ 43 #[.val (.long x0), .second, .val (.int x1), .val (.int x2), .val (.long v), .second, .val (.ref ca), .unset, .unset, .unset, .unset] [(.ref ta)]
  refine Go.more (cells' := 3) (slots' := 8) (Nat.le_of_ble_eq_true rfl) (Nat.le_of_ble_eq_true rfl) ?_
  have O5 := O4.keep K5 (allS nta all0)
  have Z5 : n0 ≤ h5.size := Nat.le_trans Z4 K5.1
  refine Go.astore C at_43 rfl (L' := #[.val (.long x0), .second, .val (.int x1), .val (.int x2), .val (.long v), .second, .val (.ref ca), .val (.ref ta), .unset, .unset, .unset]) rfl (pc' := 45) rfl ?_
  refine Go.lload C at_45 rfl (pc' := 47) rfl ?_
  refine Go.callSW C at_47 (hw _ (List.mem_of_getElem? (i := 30) rfl)) (hw _ (List.mem_of_getElem? (i := 31) rfl)) (hw _ (List.mem_of_getElem? (i := 32) rfl)) (hw _ (List.mem_of_getElem? (i := 33) rfl)) (by decide) (argsL := [(.long v)]) (rest := []) rfl (lenOf pd__J_Ljava_lang_String_ rfl) rfl (W := 0) (Nat.le_of_ble_eq_true rfl) (CtW.pay (rm_enc l Z a0 hw T v z h5 n0 Z5 H St hz O5) hEL (hw _ (List.mem_of_getElem? (i := 33) rfl)) (hw _ (List.mem_of_getElem? (i := 32) rfl)) (by decide) (by decide)) (by simp) (fun _ _ _ q => q.2) (by decide) (by decide) (pc' := 50) rfl ?_
  rintro _ h6 L6 ⟨⟨ka, t6, kt6, rfl, K6, S6⟩, -⟩ -
  show Go p l e room_1 s m #[.long x0, .int x1, .int x2] below meth c Z "com/example/patterns_to_partitions/patternstopartitions/key/UintKeyDecodePinLaw" n0 _ (EnW s room_1 n0 Z [] (fun v _ => v = some (.int 1))) _ _ _ 50 #[.val (.long x0), .second, .val (.int x1), .val (.int x2), .val (.long v), .second, .val (.ref ca), .val (.ref ta), .unset, .unset, .unset] [(.ref ka)]
  have O6 := O5.keep K6 all0
  have hb := own_key_lt (own_N v) (v - 251)
  refine Go.astore C at_50 rfl (L' := #[.val (.long x0), .second, .val (.int x1), .val (.int x2), .val (.long v), .second, .val (.ref ca), .val (.ref ta), .val (.ref ka), .unset, .unset]) rfl (pc' := 52) rfl ?_
  refine Go.aload C at_52 rfl rfl (pc' := 54) rfl ?_
  refine Go.aload C at_54 rfl rfl (pc' := 56) rfl ?_
  by_cases hv : own_N v < 251
  · have ek : (own_key (own_N v) (v - 251)) = [own_N v] := by rw [own_key, if_pos hv]
    rw [ek] at S6 hb
    refine Go.callS C at_56 (hw _ (List.mem_of_getElem? (i := 167) rfl)) (hw _ (List.mem_of_getElem? (i := 168) rfl)) (hw _ (List.mem_of_getElem? (i := 32) rfl)) (hw _ (List.mem_of_getElem? (i := 169) rfl)) (by decide) (argsL := [(.ref ka), (.ref ta)]) (rest := []) rfl (lenOf pd__Ljava_lang_String_Ljava_lang_String__J rfl) rfl (W := 0) (Nat.le_of_ble_eq_true rfl) (Ct.pay (rm_dec l Z a0 hw ka ta t6 kt6 [own_N v] 0 1 v z fm h6 n0 S6 hb rfl (by decide) (own_get1 hv) (by rw [Nat.pow_one]; omega) (fun q => absurd q (by decide)) (Or.inl ⟨rfl, rfl, hv⟩) (fun q => absurd q (by decide)) St hz Fm rf O6) (hw _ (List.mem_of_getElem? (i := 169) rfl)) (hw _ (List.mem_of_getElem? (i := 32) rfl)) (by decide) (by decide)) (fun _ _ _ q => q.2) (by decide) (by decide) (fun _ _ _ _ q b => by obtain ⟨⟨_, rfl⟩, _⟩ := q; exact b) (pc' := 59) rfl ?_
    rintro _ _ L7 ⟨⟨rfl, rfl⟩, -⟩
    show Go p l e room_1 s m #[.long x0, .int x1, .int x2] below meth c Z "com/example/patterns_to_partitions/patternstopartitions/key/UintKeyDecodePinLaw" n0 _ (EnW s room_1 n0 Z [] (fun v _ => v = some (.int 1))) _ _ _ 59 #[.val (.long x0), .second, .val (.int x1), .val (.int x2), .val (.long v), .second, .val (.ref ca), .val (.ref ta), .val (.ref ka), .unset, .unset] [(.long v)]
    refine Go.lstore C at_59 (L' := #[.val (.long x0), .second, .val (.int x1), .val (.int x2), .val (.long v), .second, .val (.ref ca), .val (.ref ta), .val (.ref ka), .val (.long v), .second]) rfl (pc' := 61) rfl ?_
    refine Go.lload C at_61 rfl (pc' := 63) rfl ?_
    refine Go.lload C at_63 rfl (pc' := 65) rfl ?_
    refine Go.lcmp C at_65 (pc' := 66) rfl ?_
    refine Go.if_ne_f C at_66 (own_lc_eq.mpr rfl) (pc' := 69) rfl ?_
    refine Go.iconst C at_69 (v := 1) rfl (pc' := 70) rfl ?_
    refine Go.goto C at_70 (by decide) (pc' := 74) (by decide) ?_
    refine Go.retNW C hEL (by simp) at_74 (by decide) (by decide) ?_
    exact rfl
  · have hs := own_sub v hv
    have hLs := own_L_spec (own_N_lt (v - 251))
    have hvl := own_N_lt v
    obtain ⟨st, hk1, hk2, hk3⟩ : ∃ st, (own_key (own_N v) (v - 251)).length = st + (own_L (own_N (v - 251))) ∧ (∀ n, n < (own_L (own_N (v - 251))) → (own_key (own_N v) (v - 251)).getD (st + ((own_L (own_N (v - 251))) - (n + 1))) 0 = own_N (v - 251) / 256 ^ n % 256) ∧ ((st = 0 ∧ (own_L (own_N (v - 251))) = 1 ∧ (own_key (own_N v) (v - 251)).getD 0 0 < 251) ∨ (st = 1 ∧ (own_L (own_N (v - 251))) ≤ 4 ∧ (own_key (own_N v) (v - 251)).getD 0 0 = 250 + (own_L (own_N (v - 251)))) ∨ (st = 2 ∧ 4 < (own_L (own_N (v - 251))) ∧ (own_key (own_N v) (v - 251)).getD 0 0 = 255 ∧ (own_key (own_N v) (v - 251)).getD 1 0 = (own_L (own_N (v - 251))))) ∧ 0 < st := own_shape v hv
    refine Go.callS C at_56 (hw _ (List.mem_of_getElem? (i := 167) rfl)) (hw _ (List.mem_of_getElem? (i := 168) rfl)) (hw _ (List.mem_of_getElem? (i := 32) rfl)) (hw _ (List.mem_of_getElem? (i := 169) rfl)) (by decide) (argsL := [(.ref ka), (.ref ta)]) (rest := []) rfl (lenOf pd__Ljava_lang_String_Ljava_lang_String__J rfl) rfl (W := 0) (Nat.le_of_ble_eq_true rfl) (Ct.pay (rm_dec l Z a0 hw ka ta t6 kt6 (own_key (own_N v) (v - 251)) st (own_L (own_N (v - 251))) (v - 251) z fm h6 n0 S6 hb hk1 ⟨hLs.1, hLs.2.1⟩ hk2 hLs.2.2.1 hLs.2.2.2 hk3.1 (fun _ => by omega) St hz Fm rf O6) (hw _ (List.mem_of_getElem? (i := 169) rfl)) (hw _ (List.mem_of_getElem? (i := 32) rfl)) (by decide) (by decide)) (fun _ _ _ q => q.2) (by decide) (by decide) (fun _ _ _ _ q b => by obtain ⟨⟨_, rfl⟩, _⟩ := q; exact b) (pc' := 59) rfl ?_
    rintro _ _ L7 ⟨⟨rfl, rfl⟩, -⟩
    show Go p l e room_1 s m #[.long x0, .int x1, .int x2] below meth c Z "com/example/patterns_to_partitions/patternstopartitions/key/UintKeyDecodePinLaw" n0 _ (EnW s room_1 n0 Z [] (fun v _ => v = some (.int 1))) _ _ _ 59 #[.val (.long x0), .second, .val (.int x1), .val (.int x2), .val (.long v), .second, .val (.ref ca), .val (.ref ta), .val (.ref ka), .unset, .unset] [(.long (if st = 0 then v - 251 else v - 251 + 251))]
    rw [if_neg (Nat.ne_of_gt hk3.2), own_add]
    show Go p l e room_1 s m #[.long x0, .int x1, .int x2] below meth c Z "com/example/patterns_to_partitions/patternstopartitions/key/UintKeyDecodePinLaw" n0 _ (EnW s room_1 n0 Z [] (fun v _ => v = some (.int 1))) _ _ _ 59 #[.val (.long x0), .second, .val (.int x1), .val (.int x2), .val (.long v), .second, .val (.ref ca), .val (.ref ta), .val (.ref ka), .unset, .unset] [(.long v)]
    refine Go.lstore C at_59 (L' := #[.val (.long x0), .second, .val (.int x1), .val (.int x2), .val (.long v), .second, .val (.ref ca), .val (.ref ta), .val (.ref ka), .val (.long v), .second]) rfl (pc' := 61) rfl ?_
    refine Go.lload C at_61 rfl (pc' := 63) rfl ?_
    refine Go.lload C at_63 rfl (pc' := 65) rfl ?_
    refine Go.lcmp C at_65 (pc' := 66) rfl ?_
    refine Go.if_ne_f C at_66 (own_lc_eq.mpr rfl) (pc' := 69) rfl ?_
    refine Go.iconst C at_69 (v := 1) rfl (pc' := 70) rfl ?_
    refine Go.goto C at_70 (by decide) (pc' := 74) (by decide) ?_
    refine Go.retNW C hEL (by simp) at_74 (by decide) (by decide) ?_
    exact rfl
set_option maxRecDepth 65536 in
set_option maxHeartbeats 40000000 in
theorem comes_1 {Post : Tables → Env → Array Value → State → Outcome → State → Prop} (hpost : ∀ tb e args s v u, (limb_1_1.after args s (.returned v) u = true ∧ limb_1_2.after args s (.returned v) u = true ∧ True) → ReturnedEndW s (.returned v) u (Jvm.fieldLocs frame_1_writes args s ++ Jvm.arrayLocs frame_1_arrays args s ++ Jvm.staticLocs frame_1_statics s) 24 1216 → Post tb e args s (.returned v) u) :
    ArmFor flags0 classFile x code maxLocals ret World_1 tables_1 room_1 Calls_1 rest_1 Pre_1 Post := by
  intro l hfl _ _ p e ha hc hk s m args below hf hA hF happ hP
  obtain ⟨hcalls, hrest, hpre⟩ := hP
  obtain ⟨-, -, -, hnamed, -, -, -, hat⟩ := (Spec.applies_iff hf).mp happ
  obtain ⟨hg, hn⟩ := and_e (Cond.before_iff.mp (show (Jvm.Cond.and given_1 narrow_1).before args s = true from hpre))
  obtain ⟨hcount, g0⟩ := and_e hg
  obtain ⟨k0, g1⟩ := and_e g0
  obtain ⟨k1, g2⟩ := and_e g1
  obtain ⟨w0, w1, w2, rfl⟩ : ∃ w0 w1 w2 : Value, args = #[w0, w1, w2] := by
    have hs : args.size = 3 := by simpa [Cond.value, given_1] using hcount
    obtain ⟨L⟩ := args
    match L, hs with
    | [w0, w1, w2], _ => exact ⟨w0, w1, w2, rfl⟩
  have hw := fun d (hd : d ∈ tables_1) => atoms_spec (ws := Jvm.Cond.code x code maxLocals ret :: tables_1) hat d (List.mem_cons_of_mem _ hd)
  obtain ⟨i0, e0⟩ := isL_v k0
  obtain rfl : w0 = (.long i0) := Option.some.inj e0
  obtain ⟨i1, e1⟩ := is_v k1
  obtain rfl : w1 = (.int i1) := Option.some.inj e1
  obtain ⟨i2, e2⟩ := is_v g2
  obtain rfl : w2 = (.int i2) := Option.some.inj e2
  obtain ⟨hsets, hown0⟩ := atoms_of _ (rest_1_c_eq ▸ (show rest_1_c.before _ s = true from hrest))
  have ncs := not_v (Cond.before_iff.mp (hsets _ (List.mem_of_getElem? (i := 2) rfl)))
  obtain ⟨ics, ecs⟩ := is_v (Cond.before_iff.mp (hsets _ (List.mem_of_getElem? (i := 1) rfl)))
  have Scs : Sta s s.heap "java/lang/String" "COMPACT_STRINGS" "Z" (.int ics) := Sta.start ecs (Or.inl (hsets _ (List.mem_of_getElem? (i := 0) rfl)))
  have zcs : ¬ (ics = (0 : Int32)) := gotF (Cond.eq_ints ecs (Term.int_eval (0))) ncs
  have hfit : Fit s := fun {y c} hc i hi => by
    obtain ⟨ha, rfl⟩ := Array.getElem?_eq_some_iff.mp hc
    have q := List.all_eq_true.mp ((Array.all_eq_true_iff_forall_mem.mp hF) _ (Array.getElem_mem ha)) i (List.mem_range.mpr hi)
    simpa [Array.getElem?_eq_getElem hi] using q
  obtain ⟨q1, r2⟩ := and_e hn
  obtain ⟨q2, r3⟩ := and_e r2
  obtain ⟨q3, r4⟩ := and_e r3
  obtain ⟨q4, q5⟩ := and_e r4
  obtain ⟨hx, ex⟩ := exa_v q1
  have Ex := Exa.start ex q1
  have Xx := Sta.start ex (Or.inr ⟨(hw _ (List.mem_of_getElem? (i := 32) rfl)), (hw _ (List.mem_of_getElem? (i := 62) rfl))⟩)
  obtain ⟨da, ed⟩ := arr_v q2
  have Fd := Fld.start ((fld_at ex).symm.trans ed)
  obtain ⟨dc, Ad, hAd, ld, zd⟩ := own_arr ed q2 q3
  have Hx : own_H s (hx, da, dc.cls) := ⟨Xx, Ex, Fd, own_dig hfit Ad hAd ld zd (fun idx => by rw [fld_at (idx := idx) ex]; exact (fld_at ex).symm.trans ed) q4 q5⟩
  obtain ⟨vf, ef, rf⟩ := isR_v (Cond.before_iff.mp (hsets _ (List.mem_of_getElem? (i := 8) rfl)))
  have Sf : Sta s s.heap "jdk/internal/util/Preconditions" "SIOOBE_FORMATTER" "Ljava/util/function/BiFunction;" vf := Sta.start ef (Or.inl (hsets _ (List.mem_of_getElem? (i := 7) rfl)))
  have hC : CHv s [] s.vm s.heap := fun _ hp => nomatch hp
  obtain ⟨n, o, h1, h2, h3, v, L, rfl, ⟨rfl, N⟩, -, hq⟩ := rm_law l s _ hw i0 i1 i2 ics _ vf s.heap s.heap.size (Nat.le_refl _) Hx Scs zcs Sf rf (Old.start s) p e ha hc hk s m _ below hf ((Spec.applies_iff_loose hf).mp happ).1 ⟨rfl, State.Warmed39.refl s, rfl, hC, fun _ q => nomatch q⟩ trivial
  refine ⟨n, _, h1, h2, h3, hpost _ _ _ _ _ _ ⟨Cond.after_iff.mpr rfl, Cond.after_iff.mpr (eq_i res_at (Term.int_eval (1)) rfl), trivial⟩ ⟨hq.1, hq.2.1, hq.2.2.1, (hq.2.2.2.sift fun y hy => Or.inr (N y hy)).mono (by decide) (by decide)⟩⟩
theorem main_1_1 : Claimed_1_1 := comes_1 fun _ _ _ _ _ _ h hF => ⟨h.1, hF⟩
theorem main_1_2 : Claimed_1_2 := comes_1 fun _ _ _ _ _ _ h hF => ⟨h.2.1, hF⟩
end Jvm.Pilot.@@N@@
namespace Jvm.Pilot.@@N@@
open Jvm Jvm.ClassFile Sem Op Lib Jvm.Free Jvm.Stand Jvm.Pilot.@@N@@.Jvm.D
/-! MADE BY PROGRAM (witnessworld.py) out of the Statement's table words and the real class files: 31 classes; the members and pool entries that the words name. The judged class is class 1, her method 1. -/
namespace start1
open Jvm.ClassFile
def u (s : String) : CpInfo := .utf8 (stringToUtf16 s)
/-- a pool by its gaps: so many unusable entries, then the entry; so many at the end -/
def gap : Nat → List CpInfo → List CpInfo
  | 0, r => r
  | n + 1, r => .unusable :: gap n r
def poolList (es : List (Nat × CpInfo)) (last : Nat) : List CpInfo := es.foldr (fun e r => gap e.1 (e.2 :: r)) (gap last [])
def pool (es : List (Nat × CpInfo)) (last : Nat) : Array CpInfo := ⟨poolList es last⟩
def fileOf (pool : Array CpInfo) (this : Nat) (attrs : Array Attribute := #[]) (ms : Array MethodInfo := #[]) (fl : Nat := 33) (sup : Nat := 0) (ifs : Array Nat := #[]) (fds : Array FieldInfo := #[]) : ClassFile where
  minorVersion := 0
  majorVersion := 65
  constantPool := pool
  accessFlags := fl
  thisClass := this
  superClass := sup
  interfaces := ifs
  fields := fds
  methods := ms
  attributes := attrs
def plain (name : String) (sup : Option ClassId) : Class where
  name := name
  kind := .ordinary
  loader := none
  accessFlags := 33
  super := sup
  interfaces := #[]
  cf := none
  fields := #[]
  methods := #[]
  instanceTypes := #[]
  staticTypes := #[]
  resolved := #[]
  callSites := []
  init := .initialized
  statics := none
  mirror := none

def pool0 : Array CpInfo := pool [(5, u "<init>"), (0, u "()V"), (1, .class_ 10), (1, u "java/lang/Object"), (85, u "clone"), (0, u "()Ljava/lang/Object;")] 26

def k0c0 : Code := { maxStack := 0, maxLocals := 1, code := object_method_1_code, exceptionTable := #[], attributes := #[] }
def k0m0 : Method := { name := "<init>", desc := "()V", sig := { parameters := [], returnType := none }, accessFlags := 1, code := some k0c0 }
def k0m1 : Method := { name := "clone", desc := "()Ljava/lang/Object;", sig := { parameters := [], returnType := some (.object "java/lang/Object") }, accessFlags := 260, code := none }
/-- java/lang/Object -/
def k0 : Class := { plain "java/lang/Object" none with
  accessFlags := 33
  interfaces := #[]
  cf := some (fileOf pool0 8 #[] #[{ accessFlags := 1, nameIndex := 5, descriptorIndex := 6, attributes := #[] }, { accessFlags := 260, nameIndex := 96, descriptorIndex := 97, attributes := #[] }] 33 0 #[] #[])
  fields := #[]
  methods := #[k0m0, k0m1]
  instanceTypes := #[]
  staticTypes := #[]
  resolved := Array.replicate 124 none
  statics := none }

def pool1 : Array CpInfo := pool [(2, .class_ 4), (1, u "java/lang/Object"), (0, u "<init>"), (0, u "()V"), (0, .class_ 8), (0, u "java/lang/String"), (0, .methodref 7 10), (0, .nameAndType 5 11), (0, u "([C)V"), (0, .methodref 13 14), (0, .class_ 15), (0, .nameAndType 16 17), (0, u "com/example/patterns_to_partitions/patternstopartitions/key/UintKey"), (0, u "encode"), (0, u "(J)Ljava/lang/String;"), (0, .methodref 13 19), (0, .nameAndType 20 21), (0, u "decode"), (0, u "(Ljava/lang/String;Ljava/lang/String;)J"), (0, .class_ 23), (0, u "com/example/patterns_to_partitions/patternstopartitions/key/UintKeyDecodePinLaw"), (2, u "law"), (0, u "(JII)Z")] 5

def k1m0 : Method := { name := "<init>", desc := "()V", sig := { parameters := [], returnType := none }, accessFlags := 2, code := none }
def k1c1 : Code := { maxStack := 5, maxLocals := 11, code := code, exceptionTable := #[], attributes := #[] }
def k1m1 : Method := { name := "law", desc := "(JII)Z", sig := { parameters := [.long, .int, .int], returnType := some .boolean }, accessFlags := 9, code := some k1c1 }
/-- com/example/patterns_to_partitions/patternstopartitions/key/UintKeyDecodePinLaw -/
def k1 : Class := { plain "com/example/patterns_to_partitions/patternstopartitions/key/UintKeyDecodePinLaw" (some 0) with
  accessFlags := 49
  interfaces := #[]
  cf := some (fileOf pool1 22 #[] #[{ accessFlags := 2, nameIndex := 5, descriptorIndex := 6, attributes := #[] }, { accessFlags := 9, nameIndex := 26, descriptorIndex := 27, attributes := #[] }] 49 2 #[] #[])
  fields := #[]
  methods := #[k1m0, k1m1]
  instanceTypes := #[]
  staticTypes := #[]
  resolved := Array.replicate 33 none
  statics := none }

def pool2 : Array CpInfo := pool [(1, .class_ 2), (0, u "java/io/Serializable"), (0, .class_ 4), (0, u "java/lang/Object")] 2

/-- java/io/Serializable -/
def k2 : Class := { plain "java/io/Serializable" (some 0) with
  accessFlags := 1537
  interfaces := #[]
  cf := some (fileOf pool2 1 #[] #[] 1537 3 #[] #[])
  fields := #[]
  methods := #[]
  instanceTypes := #[]
  staticTypes := #[]
  resolved := Array.replicate 7 none
  statics := none }

def pool3 : Array CpInfo := pool [(1, .class_ 2), (0, u "java/lang/Comparable"), (0, .class_ 4), (0, u "java/lang/Object")] 7

/-- java/lang/Comparable -/
def k3 : Class := { plain "java/lang/Comparable" (some 0) with
  accessFlags := 1537
  interfaces := #[]
  cf := some (fileOf pool3 1 #[] #[] 1537 3 #[] #[])
  fields := #[]
  methods := #[]
  instanceTypes := #[]
  staticTypes := #[]
  resolved := Array.replicate 12 none
  statics := none }

def pool4 : Array CpInfo := pool [(2, .class_ 4), (1, u "java/lang/CharSequence"), (42, .class_ 48), (0, u "java/lang/CharSequence$1CodePointIterator"), (10, .class_ 60), (0, u "java/lang/CharSequence$1CharIterator"), (5, .class_ 67), (0, u "java/lang/Object")] 63

/-- java/lang/CharSequence -/
def k4 : Class := { plain "java/lang/CharSequence" (some 0) with
  accessFlags := 1537
  interfaces := #[]
  cf := some (fileOf pool4 2 #[.nestMembers #[47, 59]] #[] 1537 66 #[] #[])
  fields := #[]
  methods := #[]
  instanceTypes := #[]
  staticTypes := #[]
  resolved := Array.replicate 131 none
  statics := none }

def pool5 : Array CpInfo := pool [(1, .class_ 2), (0, u "java/lang/constant/Constable"), (0, .class_ 4), (0, u "java/lang/Object")] 6

/-- java/lang/constant/Constable -/
def k5 : Class := { plain "java/lang/constant/Constable" (some 0) with
  accessFlags := 1537
  interfaces := #[]
  cf := some (fileOf pool5 1 #[] #[] 1537 3 #[] #[])
  fields := #[]
  methods := #[]
  instanceTypes := #[]
  staticTypes := #[]
  resolved := Array.replicate 11 none
  statics := none }

def pool6 : Array CpInfo := pool [(1, .class_ 2), (0, u "java/lang/constant/ConstantDesc"), (0, .class_ 4), (0, u "java/lang/Object")] 32

/-- java/lang/constant/ConstantDesc -/
def k6 : Class := { plain "java/lang/constant/ConstantDesc" (some 0) with
  accessFlags := 1537
  interfaces := #[]
  cf := some (fileOf pool6 1 #[] #[] 1537 3 #[] #[])
  fields := #[]
  methods := #[]
  instanceTypes := #[]
  staticTypes := #[]
  resolved := Array.replicate 37 none
  statics := none }

def pool7 : Array CpInfo := pool [(1, .methodref 2 3), (0, .class_ 4), (0, .nameAndType 5 6), (0, u "java/lang/Object"), (0, u "<init>"), (0, u "()V"), (2, .fieldref 10 11), (0, .class_ 12), (0, .nameAndType 13 14), (0, u "java/lang/String"), (0, u "value"), (0, u "[B"), (0, .fieldref 10 16), (0, .nameAndType 17 18), (0, u "coder"), (0, u "B"), (2, u "hash"), (0, u "I"), (2, u "hashIsZero"), (0, u "Z"), (0, .methodref 10 28), (0, .nameAndType 5 29), (0, u "([CIILjava/lang/Void;)V"), (8, .fieldref 10 39), (0, .nameAndType 40 26), (0, u "COMPACT_STRINGS"), (1, .class_ 44), (1, u "java/lang/StringUTF16"), (0, u "compress"), (1, .methodref 42 48), (0, .nameAndType 49 50), (0, u "coderFromArrayLen"), (0, u "([BI)B"), (3, .methodref 55 56), (0, .class_ 57), (0, .nameAndType 58 59), (0, u "java/util/Arrays"), (0, u "copyOfRange"), (0, u "([BII)[B"), (47, .class_ 109), (1, u "java/lang/StringLatin1"), (32, u "()Z"), (34, .methodref 42 178), (0, .nameAndType 45 179), (0, u "([CII)[B"), (154, u "()I"), (0, .methodref 10 336), (0, .nameAndType 17 337), (0, u "()B"), (2, u "()[B"), (22, u "([BI)C"), (27, u "(II)V"), (35, u "(I)C"), (61, .methodref 10 490), (0, .nameAndType 5 491), (0, u "(Ljava/lang/AbstractStringBuilder;Ljava/lang/Void;)V"), (0, .methodref 10 493), (0, .nameAndType 494 142), (0, u "isLatin1"), (0, .methodref 107 496), (0, .nameAndType 497 363), (0, u "charAt"), (3, u "checkIndex"), (4, .nameAndType 507 334), (0, u "length"), (41, .methodref 550 506), (0, .class_ 551), (0, u "java/lang/AbstractStringBuilder"), (0, .methodref 550 553), (0, .nameAndType 554 340), (0, u "getValue"), (20, .class_ 576), (0, u "java/lang/CharSequence"), (22, u "CASE_INSENSITIVE_ORDER"), (0, u "Ljava/util/Comparator;"), (91, u "isEmpty"), (317, u "([C)V"), (36, .methodref 550 493), (5, .fieldref 1054 1055), (0, .class_ 1056), (0, .nameAndType 1057 1058), (0, u "jdk/internal/util/Preconditions"), (0, u "SIOOBE_FORMATTER"), (0, u "Ljava/util/function/BiFunction;"), (0, .methodref 1054 1060), (0, .nameAndType 501 1061), (0, u "(IILjava/util/function/BiFunction;)I"), (39, u "serialPersistentFields"), (0, u "[Ljava/io/ObjectStreamField;"), (0, .class_ 1104), (0, u "java/lang/String$CaseInsensitiveComparator"), (1, .class_ 1107), (0, u "java/io/Serializable"), (0, .class_ 1109), (0, u "java/lang/Comparable"), (0, .class_ 1111), (0, u "java/lang/constant/Constable"), (0, .class_ 1113), (0, u "java/lang/constant/ConstantDesc"), (2, u "serialVersionUID"), (0, u "J"), (3, u "REPL"), (0, u "C"), (2, u "LATIN1"), (1, u "UTF16"), (105, u "(Ljava/lang/StringBuilder;)V")] 217

def k7m0 : Method := { name := "<init>", desc := "()V", sig := { parameters := [], returnType := none }, accessFlags := 1, code := none }
def k7c1 : Code := { maxStack := 5, maxLocals := 2, code := jdk_42_method_3_code, exceptionTable := #[], attributes := #[] }
def k7m1 : Method := { name := "<init>", desc := "([C)V", sig := { parameters := [(.array .char)], returnType := none }, accessFlags := 1, code := some k7c1 }
def k7c2 : Code := { maxStack := 3, maxLocals := 2, code := jdk_42_method_53_code, exceptionTable := #[], attributes := #[] }
def k7m2 : Method := { name := "<init>", desc := "(Ljava/lang/StringBuilder;)V", sig := { parameters := [(.object "java/lang/StringBuilder")], returnType := none }, accessFlags := 1, code := some k7c2 }
def k7c3 : Code := { maxStack := 2, maxLocals := 1, code := jdk_42_method_54_code, exceptionTable := #[], attributes := #[] }
def k7m3 : Method := { name := "length", desc := "()I", sig := { parameters := [], returnType := some .int }, accessFlags := 1, code := some k7c3 }
def k7c4 : Code := { maxStack := 1, maxLocals := 1, code := jdk_42_method_55_code, exceptionTable := #[], attributes := #[] }
def k7m4 : Method := { name := "isEmpty", desc := "()Z", sig := { parameters := [], returnType := some .boolean }, accessFlags := 1, code := some k7c4 }
def k7c5 : Code := { maxStack := 2, maxLocals := 2, code := jdk_42_method_56_code, exceptionTable := #[], attributes := #[] }
def k7m5 : Method := { name := "charAt", desc := "(I)C", sig := { parameters := [.int], returnType := some .char }, accessFlags := 1, code := some k7c5 }
def k7c6 : Code := { maxStack := 4, maxLocals := 6, code := jdk_42_method_149_code, exceptionTable := #[], attributes := #[] }
def k7m6 : Method := { name := "<init>", desc := "([CIILjava/lang/Void;)V", sig := { parameters := [(.array .char), .int, .int, (.object "java/lang/Void")], returnType := none }, accessFlags := 2, code := some k7c6 }
def k7c7 : Code := { maxStack := 5, maxLocals := 5, code := jdk_42_method_150_code, exceptionTable := #[], attributes := #[] }
def k7m7 : Method := { name := "<init>", desc := "(Ljava/lang/AbstractStringBuilder;Ljava/lang/Void;)V", sig := { parameters := [(.object "java/lang/AbstractStringBuilder"), (.object "java/lang/Void")], returnType := none }, accessFlags := 0, code := some k7c7 }
def k7c8 : Code := { maxStack := 1, maxLocals := 1, code := jdk_42_method_152_code, exceptionTable := #[], attributes := #[] }
def k7m8 : Method := { name := "coder", desc := "()B", sig := { parameters := [], returnType := some .byte }, accessFlags := 0, code := some k7c8 }
def k7c9 : Code := { maxStack := 1, maxLocals := 1, code := jdk_42_method_154_code, exceptionTable := #[], attributes := #[] }
def k7m9 : Method := { name := "isLatin1", desc := "()Z", sig := { parameters := [], returnType := some .boolean }, accessFlags := 0, code := some k7c9 }
def k7c10 : Code := { maxStack := 3, maxLocals := 2, code := jdk_42_method_155_code, exceptionTable := #[], attributes := #[] }
def k7m10 : Method := { name := "checkIndex", desc := "(II)V", sig := { parameters := [.int, .int], returnType := none }, accessFlags := 8, code := some k7c10 }
/-- java/lang/String -/
def k7 : Class := { plain "java/lang/String" (some 0) with
  accessFlags := 49
  interfaces := #[2, 3, 4, 5, 6]
  cf := some (fileOf pool7 10 #[.nestMembers #[1103]] #[{ accessFlags := 1, nameIndex := 5, descriptorIndex := 6, attributes := #[] }, { accessFlags := 1, nameIndex := 5, descriptorIndex := 1010, attributes := #[] }, { accessFlags := 1, nameIndex := 5, descriptorIndex := 1233, attributes := #[] }, { accessFlags := 1, nameIndex := 507, descriptorIndex := 334, attributes := #[] }, { accessFlags := 1, nameIndex := 692, descriptorIndex := 142, attributes := #[] }, { accessFlags := 1, nameIndex := 497, descriptorIndex := 427, attributes := #[] }, { accessFlags := 2, nameIndex := 5, descriptorIndex := 29, attributes := #[] }, { accessFlags := 0, nameIndex := 5, descriptorIndex := 491, attributes := #[] }, { accessFlags := 0, nameIndex := 17, descriptorIndex := 337, attributes := #[] }, { accessFlags := 0, nameIndex := 494, descriptorIndex := 142, attributes := #[] }, { accessFlags := 8, nameIndex := 501, descriptorIndex := 391, attributes := #[] }] 49 2 #[1106, 1108, 575, 1110, 1112] #[{ accessFlags := 18, nameIndex := 13, descriptorIndex := 14, attributes := #[] }, { accessFlags := 18, nameIndex := 17, descriptorIndex := 18, attributes := #[] }, { accessFlags := 2, nameIndex := 21, descriptorIndex := 22, attributes := #[] }, { accessFlags := 2, nameIndex := 25, descriptorIndex := 26, attributes := #[] }, { accessFlags := 26, nameIndex := 1116, descriptorIndex := 1117, attributes := #[] }, { accessFlags := 24, nameIndex := 40, descriptorIndex := 26, attributes := #[] }, { accessFlags := 26, nameIndex := 1101, descriptorIndex := 1102, attributes := #[] }, { accessFlags := 26, nameIndex := 1121, descriptorIndex := 1122, attributes := #[] }, { accessFlags := 25, nameIndex := 599, descriptorIndex := 600, attributes := #[] }, { accessFlags := 24, nameIndex := 1125, descriptorIndex := 18, attributes := #[] }, { accessFlags := 24, nameIndex := 1127, descriptorIndex := 18, attributes := #[] }])
  fields := #[{ name := "value", type := (.array .byte), accessFlags := 18, slot := 0, constantValue := 0 }, { name := "coder", type := .byte, accessFlags := 18, slot := 1, constantValue := 0 }, { name := "hash", type := .int, accessFlags := 2, slot := 2, constantValue := 0 }, { name := "hashIsZero", type := .boolean, accessFlags := 2, slot := 3, constantValue := 0 }, { name := "serialVersionUID", type := .long, accessFlags := 26, slot := 0, constantValue := 0 }, { name := "COMPACT_STRINGS", type := .boolean, accessFlags := 24, slot := 1, constantValue := 0 }, { name := "serialPersistentFields", type := (.array (.object "java/io/ObjectStreamField")), accessFlags := 26, slot := 2, constantValue := 0 }, { name := "REPL", type := .char, accessFlags := 26, slot := 3, constantValue := 0 }, { name := "CASE_INSENSITIVE_ORDER", type := (.object "java/util/Comparator"), accessFlags := 25, slot := 4, constantValue := 0 }, { name := "LATIN1", type := .byte, accessFlags := 24, slot := 5, constantValue := 0 }, { name := "UTF16", type := .byte, accessFlags := 24, slot := 6, constantValue := 0 }]
  methods := #[k7m0, k7m1, k7m2, k7m3, k7m4, k7m5, k7m6, k7m7, k7m8, k7m9, k7m10]
  instanceTypes := #[(.array .byte), .byte, .int, .boolean]
  staticTypes := #[.long, .boolean, (.array (.object "java/io/ObjectStreamField")), .char, (.object "java/util/Comparator"), .byte, .byte]
  resolved := Array.replicate 1451 none
  statics := some 0 }

def pool8 : Array CpInfo := pool [(6, .class_ 8), (1, u "java/lang/Object"), (0, u "<init>"), (0, u "()V"), (1, .class_ 14), (1, u "java/lang/StringUTF16"), (31, u "$assertionsDisabled"), (0, u "Z"), (13, u "HI_BYTE_SHIFT"), (0, u "I"), (2, u "LO_BYTE_SHIFT"), (49, .methodref 12 116), (0, .nameAndType 117 118), (0, u "compress"), (0, u "([CI[BII)I"), (3, u "([CII)[B"), (138, u "coderFromArrayLen"), (0, u "([BI)B"), (106, .class_ 371), (1, u "java/lang/StringUTF16$LinesSpliterator"), (58, u "MAX_LENGTH"), (196, .class_ 628), (0, u "java/lang/StringUTF16$CodePointsSpliterator"), (0, .class_ 630), (0, u "java/lang/StringUTF16$CharsSpliterator")] 4

def k8m0 : Method := { name := "<init>", desc := "()V", sig := { parameters := [], returnType := none }, accessFlags := 0, code := none }
def k8c1 : Code := { maxStack := 2, maxLocals := 2, code := jdk_52_method_15_code, exceptionTable := #[], attributes := #[] }
def k8m1 : Method := { name := "coderFromArrayLen", desc := "([BI)B", sig := { parameters := [(.array .byte), .int], returnType := some .byte }, accessFlags := 8, code := some k8c1 }
def k8c2 : Code := { maxStack := 5, maxLocals := 6, code := jdk_52_method_16_code, exceptionTable := #[], attributes := #[] }
def k8m2 : Method := { name := "compress", desc := "([CII)[B", sig := { parameters := [(.array .char), .int, .int], returnType := some (.array .byte) }, accessFlags := 9, code := some k8c2 }
def k8c3 : Code := { maxStack := 3, maxLocals := 7, code := jdk_52_method_21_code, exceptionTable := #[], attributes := #[] }
def k8m3 : Method := { name := "compress", desc := "([CI[BII)I", sig := { parameters := [(.array .char), .int, (.array .byte), .int, .int], returnType := some .int }, accessFlags := 9, code := some k8c3 }
/-- java/lang/StringUTF16 -/
def k8 : Class := { plain "java/lang/StringUTF16" (some 0) with
  accessFlags := 48
  interfaces := #[]
  cf := some (fileOf pool8 12 #[.nestMembers #[627, 629, 369]] #[{ accessFlags := 0, nameIndex := 9, descriptorIndex := 10, attributes := #[] }, { accessFlags := 8, nameIndex := 261, descriptorIndex := 262, attributes := #[] }, { accessFlags := 9, nameIndex := 117, descriptorIndex := 122, attributes := #[] }, { accessFlags := 9, nameIndex := 117, descriptorIndex := 118, attributes := #[] }] 48 6 #[] #[{ accessFlags := 26, nameIndex := 61, descriptorIndex := 62, attributes := #[] }, { accessFlags := 26, nameIndex := 65, descriptorIndex := 62, attributes := #[] }, { accessFlags := 24, nameIndex := 430, descriptorIndex := 62, attributes := #[] }, { accessFlags := 4120, nameIndex := 46, descriptorIndex := 47, attributes := #[] }])
  fields := #[{ name := "HI_BYTE_SHIFT", type := .int, accessFlags := 26, slot := 0, constantValue := 0 }, { name := "LO_BYTE_SHIFT", type := .int, accessFlags := 26, slot := 1, constantValue := 0 }, { name := "MAX_LENGTH", type := .int, accessFlags := 24, slot := 2, constantValue := 0 }, { name := "$assertionsDisabled", type := .boolean, accessFlags := 4120, slot := 3, constantValue := 0 }]
  methods := #[k8m0, k8m1, k8m2, k8m3]
  instanceTypes := #[]
  staticTypes := #[.int, .int, .int, .boolean]
  resolved := Array.replicate 635 none
  statics := none }

def pool9 : Array CpInfo := pool [(1, .class_ 2), (0, u "com/example/patterns_to_partitions/patternstopartitions/key/UintKey"), (0, .class_ 4), (0, u "java/lang/Long"), (1, .class_ 8), (1, u "java/lang/Object"), (0, u "<init>"), (0, u "()V"), (0, .class_ 12), (0, u "java/lang/StringBuilder"), (0, .methodref 11 14), (0, .nameAndType 9 15), (0, u "(I)V"), (0, .long 251), (1, .methodref 3 19), (0, .nameAndType 20 21), (0, u "compareUnsigned"), (0, u "(JJ)I"), (0, .fieldref 1 23), (0, .nameAndType 24 25), (0, u "HEX"), (0, u "Ljava/util/HexFormat;"), (0, .methodref 27 28), (0, .class_ 29), (0, .nameAndType 30 31), (0, u "java/util/HexFormat"), (0, u "toHexDigits"), (0, u "(Ljava/lang/Appendable;B)Ljava/lang/Appendable;"), (0, .methodref 1 33), (0, .nameAndType 34 35), (0, u "byteLength"), (0, u "(J)I"), (0, .methodref 11 37), (0, .nameAndType 38 39), (0, u "toString"), (0, u "()Ljava/lang/String;"), (4, u "decode"), (0, u "(Ljava/lang/String;Ljava/lang/String;)J"), (0, .methodref 47 48), (0, .class_ 49), (0, .nameAndType 50 51), (0, u "java/lang/String"), (0, u "isEmpty"), (0, u "()Z"), (0, .methodref 47 53), (0, .nameAndType 54 55), (0, u "length"), (0, u "()I"), (6, .methodref 1 63), (0, .nameAndType 64 65), (0, u "byteAt"), (0, u "(Ljava/lang/String;Ljava/lang/String;I)I"), (9, .long 18446744073709551364), (3, .methodref 3 80), (0, .nameAndType 81 35), (0, u "numberOfLeadingZeros"), (0, .methodref 83 84), (0, .class_ 85), (0, .nameAndType 86 87), (0, u "java/lang/Math"), (0, u "max"), (0, u "(II)I"), (0, .methodref 47 89), (0, .nameAndType 90 91), (0, u "charAt"), (0, u "(I)C"), (0, .methodref 1 93), (0, .nameAndType 94 95), (0, u "hexDigit"), (0, u "(C)I"), (14, u "SMALL_LIMIT"), (0, u "I"), (2, u "MAX_TAGGED_LENGTH"), (1, u "FIRST_TAG"), (0, u "LONG_TAG"), (1, u "MAX_OFFSET"), (0, u "J"), (0, u "MAX_DIGITS"), (3, u "encode"), (0, u "(J)Ljava/lang/String;")] 24

def k9m0 : Method := { name := "<init>", desc := "()V", sig := { parameters := [], returnType := none }, accessFlags := 2, code := none }
def k9c1 : Code := { maxStack := 5, maxLocals := 7, code := prog_26_method_2_code, exceptionTable := #[], attributes := #[] }
def k9m1 : Method := { name := "encode", desc := "(J)Ljava/lang/String;", sig := { parameters := [.long], returnType := some (.object "java/lang/String") }, accessFlags := 9, code := some k9c1 }
def k9c2 : Code := { maxStack := 5, maxLocals := 9, code := prog_26_method_4_code, exceptionTable := #[], attributes := #[] }
def k9m2 : Method := { name := "decode", desc := "(Ljava/lang/String;Ljava/lang/String;)J", sig := { parameters := [(.object "java/lang/String"), (.object "java/lang/String")], returnType := some .long }, accessFlags := 8, code := some k9c2 }
def k9c3 : Code := { maxStack := 3, maxLocals := 3, code := prog_26_method_5_code, exceptionTable := #[], attributes := #[] }
def k9m3 : Method := { name := "byteLength", desc := "(J)I", sig := { parameters := [.long], returnType := some .int }, accessFlags := 10, code := some k9c3 }
def k9c4 : Code := { maxStack := 3, maxLocals := 5, code := prog_26_method_6_code, exceptionTable := #[], attributes := #[] }
def k9m4 : Method := { name := "byteAt", desc := "(Ljava/lang/String;Ljava/lang/String;I)I", sig := { parameters := [(.object "java/lang/String"), (.object "java/lang/String"), .int], returnType := some .int }, accessFlags := 10, code := some k9c4 }
def k9c5 : Code := { maxStack := 2, maxLocals := 2, code := prog_26_method_7_code, exceptionTable := #[], attributes := #[] }
def k9m5 : Method := { name := "hexDigit", desc := "(C)I", sig := { parameters := [.char], returnType := some .int }, accessFlags := 10, code := some k9c5 }
/-- com/example/patterns_to_partitions/patternstopartitions/key/UintKey -/
def k9 : Class := { plain "com/example/patterns_to_partitions/patternstopartitions/key/UintKey" (some 0) with
  accessFlags := 49
  interfaces := #[]
  cf := some (fileOf pool9 1 #[] #[{ accessFlags := 2, nameIndex := 9, descriptorIndex := 10, attributes := #[] }, { accessFlags := 9, nameIndex := 125, descriptorIndex := 126, attributes := #[] }, { accessFlags := 8, nameIndex := 44, descriptorIndex := 45, attributes := #[] }, { accessFlags := 10, nameIndex := 34, descriptorIndex := 35, attributes := #[] }, { accessFlags := 10, nameIndex := 64, descriptorIndex := 65, attributes := #[] }, { accessFlags := 10, nameIndex := 94, descriptorIndex := 95, attributes := #[] }] 49 6 #[] #[{ accessFlags := 26, nameIndex := 110, descriptorIndex := 111, attributes := #[] }, { accessFlags := 26, nameIndex := 114, descriptorIndex := 111, attributes := #[] }, { accessFlags := 26, nameIndex := 116, descriptorIndex := 111, attributes := #[] }, { accessFlags := 26, nameIndex := 117, descriptorIndex := 111, attributes := #[] }, { accessFlags := 26, nameIndex := 119, descriptorIndex := 120, attributes := #[] }, { accessFlags := 26, nameIndex := 121, descriptorIndex := 111, attributes := #[] }, { accessFlags := 26, nameIndex := 24, descriptorIndex := 25, attributes := #[] }])
  fields := #[{ name := "SMALL_LIMIT", type := .int, accessFlags := 26, slot := 0, constantValue := 0 }, { name := "MAX_TAGGED_LENGTH", type := .int, accessFlags := 26, slot := 1, constantValue := 0 }, { name := "FIRST_TAG", type := .int, accessFlags := 26, slot := 2, constantValue := 0 }, { name := "LONG_TAG", type := .int, accessFlags := 26, slot := 3, constantValue := 0 }, { name := "MAX_OFFSET", type := .long, accessFlags := 26, slot := 4, constantValue := 0 }, { name := "MAX_DIGITS", type := .int, accessFlags := 26, slot := 5, constantValue := 0 }, { name := "HEX", type := (.object "java/util/HexFormat"), accessFlags := 26, slot := 6, constantValue := 0 }]
  methods := #[k9m0, k9m1, k9m2, k9m3, k9m4, k9m5]
  instanceTypes := #[]
  staticTypes := #[.int, .int, .int, .int, .long, .int, (.object "java/util/HexFormat")]
  resolved := Array.replicate 151 none
  statics := some 1 }

def pool10 : Array CpInfo := pool [(1, .class_ 2), (0, u "java/lang/Appendable"), (0, .class_ 4), (0, u "java/lang/Object"), (0, u "append"), (5, u "(C)Ljava/lang/Appendable;")] 2

def k10m0 : Method := { name := "append", desc := "(C)Ljava/lang/Appendable;", sig := { parameters := [.char], returnType := some (.object "java/lang/Appendable") }, accessFlags := 1025, code := none }
/-- java/lang/Appendable -/
def k10 : Class := { plain "java/lang/Appendable" (some 0) with
  accessFlags := 1537
  interfaces := #[]
  cf := some (fileOf pool10 1 #[] #[{ accessFlags := 1025, nameIndex := 5, descriptorIndex := 11, attributes := #[] }] 1537 3 #[] #[])
  fields := #[]
  methods := #[k10m0]
  instanceTypes := #[]
  staticTypes := #[]
  resolved := Array.replicate 14 none
  statics := none }

def pool11 : Array CpInfo := pool [(1, .class_ 2), (0, u "java/lang/String"), (0, .methodref 4 5), (0, .class_ 6), (0, .nameAndType 7 8), (0, u "java/lang/Object"), (0, u "<init>"), (0, u "()V"), (1, .class_ 12), (1, u "java/lang/AbstractStringBuilder"), (0, u "EMPTYVALUE"), (0, u "[B"), (0, .fieldref 10 16), (0, .nameAndType 17 14), (0, u "value"), (0, .fieldref 1 19), (0, .nameAndType 20 21), (0, u "COMPACT_STRINGS"), (0, u "Z"), (0, .fieldref 10 23), (0, .nameAndType 24 25), (0, u "coder"), (0, u "B"), (8, u "length"), (0, u "()I"), (9, u "append"), (2, .class_ 49), (0, u "java/lang/CharSequence"), (25, u "maybeLatin1"), (3, .fieldref 10 80), (0, .nameAndType 81 82), (0, u "count"), (0, u "I"), (0, .methodref 10 84), (0, .nameAndType 85 86), (0, u "isLatin1"), (0, u "()Z"), (1, .class_ 90), (1, u "java/lang/StringLatin1"), (9, .methodref 10 101), (0, .nameAndType 102 103), (0, u "ensureCapacityInternal"), (0, u "(I)V"), (87, .methodref 88 192), (0, .nameAndType 193 194), (0, u "canEncode"), (0, u "(C)Z"), (97, u "(C)Ljava/lang/AbstractStringBuilder;"), (110, u "()[B"), (40, .class_ 445), (0, u "java/lang/Appendable"), (106, u "getValue")] 56

def k11m0 : Method := { name := "<init>", desc := "()V", sig := { parameters := [], returnType := none }, accessFlags := 0, code := none }
def k11c1 : Code := { maxStack := 2, maxLocals := 2, code := jdk_68_method_2_code, exceptionTable := #[], attributes := #[] }
def k11m1 : Method := { name := "<init>", desc := "(I)V", sig := { parameters := [.int], returnType := none }, accessFlags := 0, code := some k11c1 }
def k11c2 : Code := { maxStack := 1, maxLocals := 1, code := jdk_68_method_6_code, exceptionTable := #[], attributes := #[] }
def k11m2 : Method := { name := "length", desc := "()I", sig := { parameters := [], returnType := some .int }, accessFlags := 1, code := some k11c2 }
def k11c3 : Code := { maxStack := 4, maxLocals := 3, code := jdk_68_method_9_code, exceptionTable := #[], attributes := #[] }
def k11m3 : Method := { name := "ensureCapacityInternal", desc := "(I)V", sig := { parameters := [.int], returnType := none }, accessFlags := 2, code := some k11c3 }
def k11c4 : Code := { maxStack := 5, maxLocals := 2, code := jdk_68_method_31_code, exceptionTable := #[], attributes := #[] }
def k11m4 : Method := { name := "append", desc := "(C)Ljava/lang/AbstractStringBuilder;", sig := { parameters := [.char], returnType := some (.object "java/lang/AbstractStringBuilder") }, accessFlags := 1, code := some k11c4 }
def k11c5 : Code := { maxStack := 1, maxLocals := 1, code := jdk_68_method_64_code, exceptionTable := #[], attributes := #[] }
def k11m5 : Method := { name := "getValue", desc := "()[B", sig := { parameters := [], returnType := some (.array .byte) }, accessFlags := 16, code := some k11c5 }
def k11c6 : Code := { maxStack := 1, maxLocals := 1, code := jdk_68_method_68_code, exceptionTable := #[], attributes := #[] }
def k11m6 : Method := { name := "isLatin1", desc := "()Z", sig := { parameters := [], returnType := some .boolean }, accessFlags := 16, code := some k11c6 }
/-- java/lang/AbstractStringBuilder -/
def k11 : Class := { plain "java/lang/AbstractStringBuilder" (some 0) with
  accessFlags := 1056
  interfaces := #[10, 4]
  cf := some (fileOf pool11 10 #[] #[{ accessFlags := 0, nameIndex := 7, descriptorIndex := 8, attributes := #[] }, { accessFlags := 0, nameIndex := 7, descriptorIndex := 103, attributes := #[] }, { accessFlags := 1, nameIndex := 34, descriptorIndex := 35, attributes := #[] }, { accessFlags := 2, nameIndex := 102, descriptorIndex := 103, attributes := #[] }, { accessFlags := 1, nameIndex := 45, descriptorIndex := 292, attributes := #[] }, { accessFlags := 16, nameIndex := 552, descriptorIndex := 403, attributes := #[] }, { accessFlags := 16, nameIndex := 85, descriptorIndex := 86, attributes := #[] }] 1056 4 #[444, 48] #[{ accessFlags := 0, nameIndex := 17, descriptorIndex := 14, attributes := #[] }, { accessFlags := 0, nameIndex := 24, descriptorIndex := 25, attributes := #[] }, { accessFlags := 0, nameIndex := 75, descriptorIndex := 21, attributes := #[] }, { accessFlags := 0, nameIndex := 81, descriptorIndex := 82, attributes := #[] }, { accessFlags := 26, nameIndex := 13, descriptorIndex := 14, attributes := #[] }])
  fields := #[{ name := "value", type := (.array .byte), accessFlags := 0, slot := 0, constantValue := 0 }, { name := "coder", type := .byte, accessFlags := 0, slot := 1, constantValue := 0 }, { name := "maybeLatin1", type := .boolean, accessFlags := 0, slot := 2, constantValue := 0 }, { name := "count", type := .int, accessFlags := 0, slot := 3, constantValue := 0 }, { name := "EMPTYVALUE", type := (.array .byte), accessFlags := 26, slot := 0, constantValue := 0 }]
  methods := #[k11m0, k11m1, k11m2, k11m3, k11m4, k11m5, k11m6]
  instanceTypes := #[(.array .byte), .byte, .boolean, .int]
  staticTypes := #[(.array .byte)]
  resolved := Array.replicate 609 none
  statics := none }

def pool12 : Array CpInfo := pool [(1, .methodref 2 3), (0, .class_ 4), (0, .nameAndType 5 6), (0, u "java/lang/AbstractStringBuilder"), (0, u "<init>"), (0, u "(I)V"), (11, .class_ 20), (1, u "java/lang/String"), (3, .class_ 26), (1, u "java/lang/StringBuilder"), (0, u "append"), (22, .methodref 2 51), (0, .nameAndType 27 52), (0, u "(C)Ljava/lang/AbstractStringBuilder;"), (84, .methodref 18 138), (0, .nameAndType 5 139), (0, u "(Ljava/lang/StringBuilder;)V"), (5, u "()V"), (10, u "()I"), (127, .methodref 24 285), (0, .nameAndType 27 286), (0, u "(C)Ljava/lang/StringBuilder;"), (56, .methodref 2 344), (0, .nameAndType 345 156), (0, u "length"), (3, .class_ 350), (0, u "java/lang/Appendable"), (0, .class_ 352), (0, u "java/io/Serializable"), (0, .class_ 354), (0, u "java/lang/Comparable"), (0, .class_ 356), (0, u "java/lang/CharSequence"), (0, u "serialVersionUID"), (0, u "J"), (40, u "toString"), (0, u "()Ljava/lang/String;"), (13, u "(C)Ljava/lang/Appendable;")] 7

def k12m0 : Method := { name := "<init>", desc := "()V", sig := { parameters := [], returnType := none }, accessFlags := 1, code := none }
def k12c1 : Code := { maxStack := 2, maxLocals := 2, code := jdk_67_method_2_code, exceptionTable := #[], attributes := #[] }
def k12m1 : Method := { name := "<init>", desc := "(I)V", sig := { parameters := [.int], returnType := none }, accessFlags := 1, code := some k12c1 }
def k12c2 : Code := { maxStack := 2, maxLocals := 2, code := jdk_67_method_14_code, exceptionTable := #[], attributes := #[] }
def k12m2 : Method := { name := "append", desc := "(C)Ljava/lang/StringBuilder;", sig := { parameters := [.char], returnType := some (.object "java/lang/StringBuilder") }, accessFlags := 1, code := some k12c2 }
def k12c3 : Code := { maxStack := 3, maxLocals := 1, code := jdk_67_method_42_code, exceptionTable := #[], attributes := #[] }
def k12m3 : Method := { name := "toString", desc := "()Ljava/lang/String;", sig := { parameters := [], returnType := some (.object "java/lang/String") }, accessFlags := 1, code := some k12c3 }
def k12c4 : Code := { maxStack := 1, maxLocals := 1, code := jdk_67_method_93_code, exceptionTable := #[], attributes := #[] }
def k12m4 : Method := { name := "length", desc := "()I", sig := { parameters := [], returnType := some .int }, accessFlags := 4161, code := some k12c4 }
def k12c5 : Code := { maxStack := 2, maxLocals := 2, code := jdk_67_method_94_code, exceptionTable := #[], attributes := #[] }
def k12m5 : Method := { name := "append", desc := "(C)Ljava/lang/Appendable;", sig := { parameters := [.char], returnType := some (.object "java/lang/Appendable") }, accessFlags := 4161, code := some k12c5 }
/-- java/lang/StringBuilder -/
def k12 : Class := { plain "java/lang/StringBuilder" (some 11) with
  accessFlags := 49
  interfaces := #[10, 2, 3, 4]
  cf := some (fileOf pool12 24 #[] #[{ accessFlags := 1, nameIndex := 5, descriptorIndex := 145, attributes := #[] }, { accessFlags := 1, nameIndex := 5, descriptorIndex := 6, attributes := #[] }, { accessFlags := 1, nameIndex := 27, descriptorIndex := 286, attributes := #[] }, { accessFlags := 1, nameIndex := 399, descriptorIndex := 400, attributes := #[] }, { accessFlags := 4161, nameIndex := 345, descriptorIndex := 156, attributes := #[] }, { accessFlags := 4161, nameIndex := 27, descriptorIndex := 414, attributes := #[] }] 49 2 #[349, 351, 353, 355] #[{ accessFlags := 24, nameIndex := 357, descriptorIndex := 358, attributes := #[] }])
  fields := #[{ name := "serialVersionUID", type := .long, accessFlags := 24, slot := 0, constantValue := 0 }]
  methods := #[k12m0, k12m1, k12m2, k12m3, k12m4, k12m5]
  instanceTypes := #[(.array .byte), .byte, .boolean, .int]
  staticTypes := #[.long]
  resolved := Array.replicate 422 none
  statics := none }

def pool13 : Array CpInfo := pool [(2, .class_ 4), (1, u "java/lang/Object"), (0, u "<init>"), (0, u "()V"), (1, .class_ 10), (1, u "java/lang/Number"), (2, .class_ 14), (0, u "java/io/Serializable"), (0, u "serialVersionUID"), (0, u "J")] 20

def k13m0 : Method := { name := "<init>", desc := "()V", sig := { parameters := [], returnType := none }, accessFlags := 1, code := none }
/-- java/lang/Number -/
def k13 : Class := { plain "java/lang/Number" (some 0) with
  accessFlags := 1057
  interfaces := #[2]
  cf := some (fileOf pool13 8 #[] #[{ accessFlags := 1, nameIndex := 5, descriptorIndex := 6, attributes := #[] }] 1057 2 #[13] #[{ accessFlags := 26, nameIndex := 15, descriptorIndex := 16, attributes := #[] }])
  fields := #[{ name := "serialVersionUID", type := .long, accessFlags := 26, slot := 0, constantValue := 0 }]
  methods := #[k13m0]
  instanceTypes := #[]
  staticTypes := #[.long]
  resolved := Array.replicate 37 none
  statics := none }

def pool14 : Array CpInfo := pool [(1, .class_ 2), (0, u "java/lang/Long"), (15, .class_ 20), (1, u "java/lang/Integer"), (79, u "numberOfLeadingZeros"), (0, u "(J)I"), (66, .long 9223372036854775808), (66, .class_ 237), (1, u "java/lang/Long$LongCache"), (33, .class_ 272), (0, u "java/lang/Number"), (2, u "value"), (0, u "J"), (25, .methodref 1 303), (0, .nameAndType 304 305), (0, u "compare"), (0, u "(JJ)I"), (2, .methodref 18 309), (0, .nameAndType 100 310), (0, u "(I)I"), (50, u "TYPE"), (0, u "Ljava/lang/Class;"), (0, .class_ 364), (0, u "java/lang/Comparable"), (0, .class_ 366), (0, u "java/lang/constant/Constable"), (0, .class_ 368), (0, u "java/lang/constant/ConstantDesc"), (0, u "MIN_VALUE"), (1, u "MAX_VALUE"), (4, u "SIZE"), (0, u "I"), (1, u "BYTES"), (1, u "serialVersionUID"), (87, u "compareUnsigned")] 54

def k14c0 : Code := { maxStack := 4, maxLocals := 4, code := jdk_35_method_42_code, exceptionTable := #[], attributes := #[] }
def k14m0 : Method := { name := "compare", desc := "(JJ)I", sig := { parameters := [.long, .long], returnType := some .int }, accessFlags := 9, code := some k14c0 }
def k14c1 : Code := { maxStack := 6, maxLocals := 4, code := jdk_35_method_43_code, exceptionTable := #[], attributes := #[] }
def k14m1 : Method := { name := "compareUnsigned", desc := "(JJ)I", sig := { parameters := [.long, .long], returnType := some .int }, accessFlags := 9, code := some k14c1 }
def k14c2 : Code := { maxStack := 3, maxLocals := 3, code := jdk_35_method_48_code, exceptionTable := #[], attributes := #[] }
def k14m2 : Method := { name := "numberOfLeadingZeros", desc := "(J)I", sig := { parameters := [.long], returnType := some .int }, accessFlags := 9, code := some k14c2 }
/-- java/lang/Long -/
def k14 : Class := { plain "java/lang/Long" (some 13) with
  accessFlags := 49
  interfaces := #[3, 5, 6]
  cf := some (fileOf pool14 1 #[.nestMembers #[235]] #[{ accessFlags := 9, nameIndex := 304, descriptorIndex := 305, attributes := #[] }, { accessFlags := 9, nameIndex := 469, descriptorIndex := 305, attributes := #[] }, { accessFlags := 9, nameIndex := 100, descriptorIndex := 101, attributes := #[] }] 49 271 #[363, 365, 367] #[{ accessFlags := 25, nameIndex := 369, descriptorIndex := 276, attributes := #[] }, { accessFlags := 25, nameIndex := 371, descriptorIndex := 276, attributes := #[] }, { accessFlags := 25, nameIndex := 361, descriptorIndex := 362, attributes := #[] }, { accessFlags := 18, nameIndex := 275, descriptorIndex := 276, attributes := #[] }, { accessFlags := 25, nameIndex := 376, descriptorIndex := 377, attributes := #[] }, { accessFlags := 25, nameIndex := 379, descriptorIndex := 377, attributes := #[] }, { accessFlags := 26, nameIndex := 381, descriptorIndex := 276, attributes := #[] }])
  fields := #[{ name := "MIN_VALUE", type := .long, accessFlags := 25, slot := 0, constantValue := 0 }, { name := "MAX_VALUE", type := .long, accessFlags := 25, slot := 1, constantValue := 0 }, { name := "TYPE", type := (.object "java/lang/Class"), accessFlags := 25, slot := 2, constantValue := 0 }, { name := "value", type := .long, accessFlags := 18, slot := 0, constantValue := 0 }, { name := "SIZE", type := .int, accessFlags := 25, slot := 3, constantValue := 0 }, { name := "BYTES", type := .int, accessFlags := 25, slot := 4, constantValue := 0 }, { name := "serialVersionUID", type := .long, accessFlags := 26, slot := 5, constantValue := 0 }]
  methods := #[k14m0, k14m1, k14m2]
  instanceTypes := #[.long]
  staticTypes := #[.long, .long, (.object "java/lang/Class"), .int, .int, .long]
  resolved := Array.replicate 524 none
  statics := none }

def pool15 : Array CpInfo := pool [(2, .class_ 4), (1, u "java/lang/Object"), (3, u "delimiter"), (0, .methodref 10 11), (0, .class_ 12), (0, .nameAndType 13 14), (0, u "java/util/Objects"), (0, u "requireNonNull"), (0, u "(Ljava/lang/Object;Ljava/lang/String;)Ljava/lang/Object;"), (3, .class_ 20), (1, u "java/util/HexFormat"), (0, u "Ljava/lang/String;"), (1, u "prefix"), (3, u "suffix"), (2, .fieldref 18 31), (0, .nameAndType 32 33), (0, u "digits"), (0, u "[B"), (2, u "HEX_FORMAT"), (0, u "Ljava/util/HexFormat;"), (4, u "LOWERCASE_DIGITS"), (5, u "UPPERCASE_DIGITS"), (41, .string 91), (0, u "out"), (3, u "append"), (2, .class_ 100), (1, u "java/lang/Appendable"), (3, u "toHexDigits"), (0, u "(Ljava/lang/Appendable;B)Ljava/lang/Appendable;"), (14, .methodref 18 121), (0, .nameAndType 122 123), (0, u "toHighHexDigit"), (0, u "(I)C"), (0, .methodref 18 125), (0, .nameAndType 126 123), (0, u "toLowHexDigit"), (7, u "jla"), (0, u "Ljdk/internal/access/JavaLangAccess;"), (55, u "EMPTY_BYTES"), (29, u "$assertionsDisabled"), (0, u "Z"), (30, .interfaceMethodref 98 254), (0, .nameAndType 95 255), (0, u "(C)Ljava/lang/Appendable;"), (13, u "DIGITS")] 141

def k15c0 : Code := { maxStack := 3, maxLocals := 2, code := jdk_2580_method_24_code, exceptionTable := #[], attributes := #[] }
def k15m0 : Method := { name := "toLowHexDigit", desc := "(I)C", sig := { parameters := [.int], returnType := some .char }, accessFlags := 1, code := some k15c0 }
def k15c1 : Code := { maxStack := 3, maxLocals := 2, code := jdk_2580_method_25_code, exceptionTable := #[], attributes := #[] }
def k15m1 : Method := { name := "toHighHexDigit", desc := "(I)C", sig := { parameters := [.int], returnType := some .char }, accessFlags := 1, code := some k15c1 }
def k15c2 : Code := { maxStack := 4, maxLocals := 4, code := jdk_2580_method_26_code, exceptionTable := #[{ startPc := 7, endPc := 32, handlerPc := 33, catchType := 110 }], attributes := #[] }
def k15m2 : Method := { name := "toHexDigits", desc := "(Ljava/lang/Appendable;B)Ljava/lang/Appendable;", sig := { parameters := [(.object "java/lang/Appendable"), .byte], returnType := some (.object "java/lang/Appendable") }, accessFlags := 1, code := some k15c2 }
/-- java/util/HexFormat -/
def k15 : Class := { plain "java/util/HexFormat" (some 0) with
  accessFlags := 49
  interfaces := #[]
  cf := some (fileOf pool15 18 #[] #[{ accessFlags := 1, nameIndex := 126, descriptorIndex := 123, attributes := #[] }, { accessFlags := 1, nameIndex := 122, descriptorIndex := 123, attributes := #[] }, { accessFlags := 1, nameIndex := 104, descriptorIndex := 105, attributes := #[] }] 49 2 #[] #[{ accessFlags := 26, nameIndex := 134, descriptorIndex := 135, attributes := #[] }, { accessFlags := 26, nameIndex := 48, descriptorIndex := 33, attributes := #[] }, { accessFlags := 26, nameIndex := 42, descriptorIndex := 33, attributes := #[] }, { accessFlags := 26, nameIndex := 269, descriptorIndex := 33, attributes := #[] }, { accessFlags := 26, nameIndex := 36, descriptorIndex := 37, attributes := #[] }, { accessFlags := 26, nameIndex := 191, descriptorIndex := 33, attributes := #[] }, { accessFlags := 18, nameIndex := 8, descriptorIndex := 21, attributes := #[] }, { accessFlags := 18, nameIndex := 23, descriptorIndex := 21, attributes := #[] }, { accessFlags := 18, nameIndex := 27, descriptorIndex := 21, attributes := #[] }, { accessFlags := 18, nameIndex := 32, descriptorIndex := 33, attributes := #[] }, { accessFlags := 4120, nameIndex := 221, descriptorIndex := 222, attributes := #[] }])
  fields := #[{ name := "jla", type := (.object "jdk/internal/access/JavaLangAccess"), accessFlags := 26, slot := 0, constantValue := 0 }, { name := "UPPERCASE_DIGITS", type := (.array .byte), accessFlags := 26, slot := 1, constantValue := 0 }, { name := "LOWERCASE_DIGITS", type := (.array .byte), accessFlags := 26, slot := 2, constantValue := 0 }, { name := "DIGITS", type := (.array .byte), accessFlags := 26, slot := 3, constantValue := 0 }, { name := "HEX_FORMAT", type := (.object "java/util/HexFormat"), accessFlags := 26, slot := 4, constantValue := 0 }, { name := "EMPTY_BYTES", type := (.array .byte), accessFlags := 26, slot := 5, constantValue := 0 }, { name := "delimiter", type := (.object "java/lang/String"), accessFlags := 18, slot := 0, constantValue := 0 }, { name := "prefix", type := (.object "java/lang/String"), accessFlags := 18, slot := 1, constantValue := 0 }, { name := "suffix", type := (.object "java/lang/String"), accessFlags := 18, slot := 2, constantValue := 0 }, { name := "digits", type := (.array .byte), accessFlags := 18, slot := 3, constantValue := 0 }, { name := "$assertionsDisabled", type := .boolean, accessFlags := 4120, slot := 6, constantValue := 0 }]
  methods := #[k15m0, k15m1, k15m2]
  instanceTypes := #[(.object "java/lang/String"), (.object "java/lang/String"), (.object "java/lang/String"), (.array .byte)]
  staticTypes := #[(.object "jdk/internal/access/JavaLangAccess"), (.array .byte), (.array .byte), (.array .byte), (.object "java/util/HexFormat"), (.array .byte), .boolean]
  resolved := Array.replicate 411 none
  statics := none }

def pool16 : Array CpInfo := pool [(2, .class_ 4), (1, u "java/lang/Object"), (0, u "<init>"), (0, u "()V"), (35, .class_ 44), (1, u "java/util/Objects"), (0, u "requireNonNull"), (48, u "(Ljava/lang/Object;Ljava/lang/String;)Ljava/lang/Object;")] 89

def k16m0 : Method := { name := "<init>", desc := "()V", sig := { parameters := [], returnType := none }, accessFlags := 2, code := none }
def k16c1 : Code := { maxStack := 3, maxLocals := 2, code := jdk_31_method_11_code, exceptionTable := #[], attributes := #[] }
def k16m1 : Method := { name := "requireNonNull", desc := "(Ljava/lang/Object;Ljava/lang/String;)Ljava/lang/Object;", sig := { parameters := [(.object "java/lang/Object"), (.object "java/lang/String")], returnType := some (.object "java/lang/Object") }, accessFlags := 9, code := some k16c1 }
/-- java/util/Objects -/
def k16 : Class := { plain "java/util/Objects" (some 0) with
  accessFlags := 49
  interfaces := #[]
  cf := some (fileOf pool16 42 #[] #[{ accessFlags := 2, nameIndex := 5, descriptorIndex := 6, attributes := #[] }, { accessFlags := 9, nameIndex := 45, descriptorIndex := 94, attributes := #[] }] 49 2 #[] #[])
  fields := #[]
  methods := #[k16m0, k16m1]
  instanceTypes := #[]
  staticTypes := #[]
  resolved := Array.replicate 184 none
  statics := none }

def pool17 : Array CpInfo := pool [(1, .class_ 2), (0, u "java/lang/String"), (1, .class_ 6), (1, u "java/lang/Object"), (0, u "<init>"), (0, u "()V"), (0, .methodref 1 10), (0, .nameAndType 11 12), (0, u "checkIndex"), (0, u "(II)V"), (1, .class_ 16), (1, u "java/lang/StringLatin1"), (36, u "([BI)C"), (36, u "canEncode"), (14, u "(C)Z"), (15, u "$assertionsDisabled"), (0, u "Z"), (98, .class_ 223), (1, u "java/lang/StringLatin1$LinesSpliterator"), (28, u "charAt"), (137, .class_ 391), (0, u "java/lang/StringLatin1$CharsSpliterator")] 3

def k17m0 : Method := { name := "<init>", desc := "()V", sig := { parameters := [], returnType := none }, accessFlags := 0, code := none }
def k17c1 : Code := { maxStack := 2, maxLocals := 2, code := jdk_43_method_2_code, exceptionTable := #[], attributes := #[] }
def k17m1 : Method := { name := "charAt", desc := "([BI)C", sig := { parameters := [(.array .byte), .int], returnType := some .char }, accessFlags := 9, code := some k17c1 }
def k17c2 : Code := { maxStack := 2, maxLocals := 1, code := jdk_43_method_3_code, exceptionTable := #[], attributes := #[] }
def k17m2 : Method := { name := "canEncode", desc := "(C)Z", sig := { parameters := [.char], returnType := some .boolean }, accessFlags := 9, code := some k17c2 }
/-- java/lang/StringLatin1 -/
def k17 : Class := { plain "java/lang/StringLatin1" (some 0) with
  accessFlags := 48
  interfaces := #[]
  cf := some (fileOf pool17 14 #[.nestMembers #[390, 221]] #[{ accessFlags := 0, nameIndex := 7, descriptorIndex := 8, attributes := #[] }, { accessFlags := 9, nameIndex := 252, descriptorIndex := 53, attributes := #[] }, { accessFlags := 9, nameIndex := 90, descriptorIndex := 105, attributes := #[] }] 48 4 #[] #[{ accessFlags := 4120, nameIndex := 121, descriptorIndex := 122, attributes := #[] }])
  fields := #[{ name := "$assertionsDisabled", type := .boolean, accessFlags := 4120, slot := 0, constantValue := 0 }]
  methods := #[k17m0, k17m1, k17m2]
  instanceTypes := #[]
  staticTypes := #[.boolean]
  resolved := Array.replicate 395 none
  statics := none }

def pool18 : Array CpInfo := pool [(2, .class_ 4), (1, u "java/lang/Object"), (0, u "<init>"), (0, u "()V"), (7, .class_ 16), (1, u "java/util/Arrays"), (57, .class_ 76), (1, u "java/util/Arrays$NaturalOrder"), (32, u "()Ljava/lang/Object;"), (3, .class_ 115), (1, u "java/util/Arrays$LegacyMergeSort"), (1, u "Z"), (10, .nameAndType 129 109), (0, u "clone"), (9, u "copyOfRange"), (10, .methodref 151 152), (0, .class_ 153), (0, .nameAndType 154 155), (0, u "java/lang/System"), (0, u "arraycopy"), (0, u "(Ljava/lang/Object;ILjava/lang/Object;II)V"), (148, .methodref 305 306), (0, .class_ 307), (0, .nameAndType 308 309), (0, u "java/lang/Math"), (0, u "min"), (0, u "(II)I"), (0, .methodref 311 128), (0, .class_ 312), (0, u "[B"), (26, .methodref 14 340), (0, .nameAndType 341 342), (0, u "copyOfRangeByte"), (0, u "([BII)[B"), (0, .methodref 14 344), (0, .nameAndType 345 346), (0, u "checkLength"), (0, u "(II)V"), (28, .class_ 376), (0, u "java/util/Arrays$ArrayList"), (68, u "$assertionsDisabled"), (269, u "MIN_ARRAY_SORT_GRAN"), (0, u "I"), (2, u "INSERTIONSORT_THRESHOLD"), (255, .class_ 976), (0, u "java/util/Arrays$ArrayItr")] 52

def k18m0 : Method := { name := "<init>", desc := "()V", sig := { parameters := [], returnType := none }, accessFlags := 2, code := none }
def k18c1 : Code := { maxStack := 4, maxLocals := 2, code := jdk_65_method_131_code, exceptionTable := #[], attributes := #[] }
def k18m1 : Method := { name := "checkLength", desc := "(II)V", sig := { parameters := [.int, .int], returnType := none }, accessFlags := 10, code := some k18c1 }
def k18c2 : Code := { maxStack := 3, maxLocals := 3, code := jdk_65_method_132_code, exceptionTable := #[], attributes := #[] }
def k18m2 : Method := { name := "copyOfRange", desc := "([BII)[B", sig := { parameters := [(.array .byte), .int, .int], returnType := some (.array .byte) }, accessFlags := 9, code := some k18c2 }
def k18c3 : Code := { maxStack := 6, maxLocals := 5, code := jdk_65_method_133_code, exceptionTable := #[], attributes := #[] }
def k18m3 : Method := { name := "copyOfRangeByte", desc := "([BII)[B", sig := { parameters := [(.array .byte), .int, .int], returnType := some (.array .byte) }, accessFlags := 10, code := some k18c3 }
/-- java/util/Arrays -/
def k18 : Class := { plain "java/util/Arrays" (some 0) with
  accessFlags := 49
  interfaces := #[]
  cf := some (fileOf pool18 14 #[.nestMembers #[975, 375, 113, 74]] #[{ accessFlags := 2, nameIndex := 5, descriptorIndex := 6, attributes := #[] }, { accessFlags := 10, nameIndex := 345, descriptorIndex := 346, attributes := #[] }, { accessFlags := 9, nameIndex := 139, descriptorIndex := 342, attributes := #[] }, { accessFlags := 10, nameIndex := 341, descriptorIndex := 342, attributes := #[] }] 49 2 #[] #[{ accessFlags := 26, nameIndex := 715, descriptorIndex := 716, attributes := #[] }, { accessFlags := 26, nameIndex := 719, descriptorIndex := 716, attributes := #[] }, { accessFlags := 4120, nameIndex := 445, descriptorIndex := 117, attributes := #[] }])
  fields := #[{ name := "MIN_ARRAY_SORT_GRAN", type := .int, accessFlags := 26, slot := 0, constantValue := 0 }, { name := "INSERTIONSORT_THRESHOLD", type := .int, accessFlags := 26, slot := 1, constantValue := 0 }, { name := "$assertionsDisabled", type := .boolean, accessFlags := 4120, slot := 2, constantValue := 0 }]
  methods := #[k18m0, k18m1, k18m2, k18m3]
  instanceTypes := #[]
  staticTypes := #[.int, .int, .boolean]
  resolved := Array.replicate 1029 none
  statics := none }

def pool19 : Array CpInfo := pool [(1, .class_ 2), (0, u "java/lang/Math"), (1, .class_ 6), (1, u "java/lang/Object"), (0, u "<init>"), (0, u "()V"), (89, .class_ 100), (1, u "java/lang/Math$RandomNumberGeneratorHolder"), (71, u "negativeZeroFloatBits"), (0, u "J"), (2, u "negativeZeroDoubleBits"), (21, u "max"), (2, u "min"), (43, u "$assertionsDisabled"), (0, u "Z"), (88, u "(II)I"), (2, u "twoToTheDoubleScaleDown"), (0, u "D"), (4, u "twoToTheDoubleScaleUp"), (9, u "E"), (3, u "PI"), (2, u "TAU"), (2, u "DEGREES_TO_RADIANS"), (0, u "RADIANS_TO_DEGREES")] 94

def k19m0 : Method := { name := "<init>", desc := "()V", sig := { parameters := [], returnType := none }, accessFlags := 2, code := none }
def k19c1 : Code := { maxStack := 2, maxLocals := 2, code := jdk_29_method_65_code, exceptionTable := #[], attributes := #[] }
def k19m1 : Method := { name := "max", desc := "(II)I", sig := { parameters := [.int, .int], returnType := some .int }, accessFlags := 9, code := some k19c1 }
def k19c2 : Code := { maxStack := 2, maxLocals := 2, code := jdk_29_method_69_code, exceptionTable := #[], attributes := #[] }
def k19m2 : Method := { name := "min", desc := "(II)I", sig := { parameters := [.int, .int], returnType := some .int }, accessFlags := 9, code := some k19c2 }
/-- java/lang/Math -/
def k19 : Class := { plain "java/lang/Math" (some 0) with
  accessFlags := 49
  interfaces := #[]
  cf := some (fileOf pool19 1 #[.nestMembers #[98]] #[{ accessFlags := 2, nameIndex := 7, descriptorIndex := 8, attributes := #[] }, { accessFlags := 9, nameIndex := 198, descriptorIndex := 335, attributes := #[] }, { accessFlags := 9, nameIndex := 201, descriptorIndex := 335, attributes := #[] }] 49 4 #[] #[{ accessFlags := 25, nameIndex := 354, descriptorIndex := 339, attributes := #[] }, { accessFlags := 25, nameIndex := 358, descriptorIndex := 339, attributes := #[] }, { accessFlags := 25, nameIndex := 361, descriptorIndex := 339, attributes := #[] }, { accessFlags := 26, nameIndex := 364, descriptorIndex := 339, attributes := #[] }, { accessFlags := 26, nameIndex := 365, descriptorIndex := 339, attributes := #[] }, { accessFlags := 26, nameIndex := 172, descriptorIndex := 173, attributes := #[] }, { accessFlags := 26, nameIndex := 176, descriptorIndex := 173, attributes := #[] }, { accessFlags := 8, nameIndex := 344, descriptorIndex := 339, attributes := #[] }, { accessFlags := 8, nameIndex := 338, descriptorIndex := 339, attributes := #[] }, { accessFlags := 4120, nameIndex := 245, descriptorIndex := 246, attributes := #[] }])
  fields := #[{ name := "E", type := .double, accessFlags := 25, slot := 0, constantValue := 0 }, { name := "PI", type := .double, accessFlags := 25, slot := 1, constantValue := 0 }, { name := "TAU", type := .double, accessFlags := 25, slot := 2, constantValue := 0 }, { name := "DEGREES_TO_RADIANS", type := .double, accessFlags := 26, slot := 3, constantValue := 0 }, { name := "RADIANS_TO_DEGREES", type := .double, accessFlags := 26, slot := 4, constantValue := 0 }, { name := "negativeZeroFloatBits", type := .long, accessFlags := 26, slot := 5, constantValue := 0 }, { name := "negativeZeroDoubleBits", type := .long, accessFlags := 26, slot := 6, constantValue := 0 }, { name := "twoToTheDoubleScaleUp", type := .double, accessFlags := 8, slot := 7, constantValue := 0 }, { name := "twoToTheDoubleScaleDown", type := .double, accessFlags := 8, slot := 8, constantValue := 0 }, { name := "$assertionsDisabled", type := .boolean, accessFlags := 4120, slot := 9, constantValue := 0 }]
  methods := #[k19m0, k19m1, k19m2]
  instanceTypes := #[]
  staticTypes := #[.double, .double, .double, .double, .double, .long, .long, .double, .double, .boolean]
  resolved := Array.replicate 460 none
  statics := none }

def pool20 : Array CpInfo := pool [(2, .class_ 4), (1, u "java/lang/Object"), (0, u "<init>"), (0, u "()V"), (1, .class_ 10), (1, u "java/lang/System"), (0, u "allowSecurityManager"), (0, u "I"), (16, u "cons"), (0, u "Ljava/io/Console;"), (77, .class_ 110), (1, u "java/lang/System$CallersHolder"), (43, u "initialErrStream"), (0, u "Ljava/io/PrintStream;"), (19, u "security"), (0, u "Ljava/lang/SecurityManager;"), (31, .class_ 209), (0, u "java/lang/System$1"), (7, u "props"), (0, u "Ljava/util/Properties;"), (2, u "lineSeparator"), (0, u "Ljava/lang/String;"), (96, .class_ 321), (1, u "java/lang/System$LoggerFinder"), (5, .class_ 328), (0, u "java/lang/System$Logger"), (67, u "err"), (2, u "out"), (91, u "notSupportedJnuEncoding"), (15, u "in"), (17, u "initialIn"), (0, u "Ljava/io/InputStream;"), (35, u "bootLayer"), (0, u "Ljava/lang/ModuleLayer;"), (99, .class_ 664), (0, u "java/lang/System$2"), (9, u "NEVER"), (2, u "MAYBE"), (49, u "arraycopy"), (0, u "(Ljava/lang/Object;ILjava/lang/Object;II)V"), (72, .class_ 802), (0, u "java/lang/System$Logger$Level")] 31

def k20m0 : Method := { name := "<init>", desc := "()V", sig := { parameters := [], returnType := none }, accessFlags := 2, code := none }
def k20m1 : Method := { name := "arraycopy", desc := "(Ljava/lang/Object;ILjava/lang/Object;II)V", sig := { parameters := [(.object "java/lang/Object"), .int, (.object "java/lang/Object"), .int, .int], returnType := none }, accessFlags := 265, code := none }
/-- java/lang/System -/
def k20 : Class := { plain "java/lang/System" (some 0) with
  accessFlags := 49
  interfaces := #[]
  cf := some (fileOf pool20 8 #[.nestMembers #[319, 327, 801, 108, 663, 208]] #[{ accessFlags := 2, nameIndex := 5, descriptorIndex := 6, attributes := #[] }, { accessFlags := 265, nameIndex := 727, descriptorIndex := 728, attributes := #[] }] 49 2 #[] #[{ accessFlags := 25, nameIndex := 507, descriptorIndex := 526, attributes := #[] }, { accessFlags := 25, nameIndex := 399, descriptorIndex := 155, attributes := #[] }, { accessFlags := 25, nameIndex := 396, descriptorIndex := 155, attributes := #[] }, { accessFlags := 10, nameIndex := 525, descriptorIndex := 526, attributes := #[] }, { accessFlags := 26, nameIndex := 674, descriptorIndex := 12, attributes := #[] }, { accessFlags := 26, nameIndex := 677, descriptorIndex := 12, attributes := #[] }, { accessFlags := 10, nameIndex := 11, descriptorIndex := 12, attributes := #[] }, { accessFlags := 74, nameIndex := 175, descriptorIndex := 176, attributes := #[] }, { accessFlags := 10, nameIndex := 491, descriptorIndex := 222, attributes := #[] }, { accessFlags := 74, nameIndex := 29, descriptorIndex := 30, attributes := #[] }, { accessFlags := 74, nameIndex := 154, descriptorIndex := 155, attributes := #[] }, { accessFlags := 10, nameIndex := 217, descriptorIndex := 218, attributes := #[] }, { accessFlags := 10, nameIndex := 221, descriptorIndex := 222, attributes := #[] }, { accessFlags := 8, nameIndex := 562, descriptorIndex := 563, attributes := #[] }])
  fields := #[{ name := "in", type := (.object "java/io/InputStream"), accessFlags := 25, slot := 0, constantValue := 0 }, { name := "out", type := (.object "java/io/PrintStream"), accessFlags := 25, slot := 1, constantValue := 0 }, { name := "err", type := (.object "java/io/PrintStream"), accessFlags := 25, slot := 2, constantValue := 0 }, { name := "initialIn", type := (.object "java/io/InputStream"), accessFlags := 10, slot := 3, constantValue := 0 }, { name := "NEVER", type := .int, accessFlags := 26, slot := 4, constantValue := 0 }, { name := "MAYBE", type := .int, accessFlags := 26, slot := 5, constantValue := 0 }, { name := "allowSecurityManager", type := .int, accessFlags := 10, slot := 6, constantValue := 0 }, { name := "security", type := (.object "java/lang/SecurityManager"), accessFlags := 74, slot := 7, constantValue := 0 }, { name := "notSupportedJnuEncoding", type := (.object "java/lang/String"), accessFlags := 10, slot := 8, constantValue := 0 }, { name := "cons", type := (.object "java/io/Console"), accessFlags := 74, slot := 9, constantValue := 0 }, { name := "initialErrStream", type := (.object "java/io/PrintStream"), accessFlags := 74, slot := 10, constantValue := 0 }, { name := "props", type := (.object "java/util/Properties"), accessFlags := 10, slot := 11, constantValue := 0 }, { name := "lineSeparator", type := (.object "java/lang/String"), accessFlags := 10, slot := 12, constantValue := 0 }, { name := "bootLayer", type := (.object "java/lang/ModuleLayer"), accessFlags := 8, slot := 13, constantValue := 0 }]
  methods := #[k20m0, k20m1]
  instanceTypes := #[]
  staticTypes := #[(.object "java/io/InputStream"), (.object "java/io/PrintStream"), (.object "java/io/PrintStream"), (.object "java/io/InputStream"), .int, .int, .int, (.object "java/lang/SecurityManager"), (.object "java/lang/String"), (.object "java/io/Console"), (.object "java/io/PrintStream"), (.object "java/util/Properties"), (.object "java/lang/String"), (.object "java/lang/ModuleLayer")]
  resolved := Array.replicate 834 none
  statics := none }

def pool21 : Array CpInfo := pool [(2, .class_ 4), (1, u "java/lang/Object"), (0, u "<init>"), (0, u "()V"), (17, .class_ 26), (1, u "jdk/internal/util/Preconditions"), (6, u "checkIndex"), (21, .class_ 56), (0, u "jdk/internal/util/Preconditions$4"), (57, .class_ 115), (0, u "jdk/internal/util/Preconditions$1"), (7, u "SIOOBE_FORMATTER"), (0, u "Ljava/util/function/BiFunction;"), (0, .class_ 126), (0, u "jdk/internal/util/Preconditions$2"), (3, u "AIOOBE_FORMATTER"), (0, .class_ 132), (0, u "jdk/internal/util/Preconditions$3"), (3, u "IOOBE_FORMATTER"), (41, u "(IILjava/util/function/BiFunction;)I")] 15

def k21m0 : Method := { name := "<init>", desc := "()V", sig := { parameters := [], returnType := none }, accessFlags := 1, code := none }
def k21c1 : Code := { maxStack := 3, maxLocals := 3, code := jdk_41_method_11_code, exceptionTable := #[], attributes := #[] }
def k21m1 : Method := { name := "checkIndex", desc := "(IILjava/util/function/BiFunction;)I", sig := { parameters := [.int, .int, (.object "java/util/function/BiFunction")], returnType := some .int }, accessFlags := 9, code := some k21c1 }
/-- jdk/internal/util/Preconditions -/
def k21 : Class := { plain "jdk/internal/util/Preconditions" (some 0) with
  accessFlags := 33
  interfaces := #[]
  cf := some (fileOf pool21 24 #[.nestMembers #[55, 131, 125, 114]] #[{ accessFlags := 1, nameIndex := 5, descriptorIndex := 6, attributes := #[] }, { accessFlags := 9, nameIndex := 33, descriptorIndex := 178, attributes := #[] }] 33 2 #[] #[{ accessFlags := 25, nameIndex := 123, descriptorIndex := 124, attributes := #[] }, { accessFlags := 25, nameIndex := 130, descriptorIndex := 124, attributes := #[] }, { accessFlags := 25, nameIndex := 136, descriptorIndex := 124, attributes := #[] }])
  fields := #[{ name := "SIOOBE_FORMATTER", type := (.object "java/util/function/BiFunction"), accessFlags := 25, slot := 0, constantValue := 0 }, { name := "AIOOBE_FORMATTER", type := (.object "java/util/function/BiFunction"), accessFlags := 25, slot := 1, constantValue := 0 }, { name := "IOOBE_FORMATTER", type := (.object "java/util/function/BiFunction"), accessFlags := 25, slot := 2, constantValue := 0 }]
  methods := #[k21m0, k21m1]
  instanceTypes := #[]
  staticTypes := #[(.object "java/util/function/BiFunction"), (.object "java/util/function/BiFunction"), (.object "java/util/function/BiFunction")]
  resolved := Array.replicate 194 none
  statics := some 2 }

def pool22 : Array CpInfo := pool [(1, .class_ 2), (0, u "java/lang/Integer"), (16, u "digits"), (0, u "[C"), (32, u "numberOfLeadingZeros"), (0, u "(I)I"), (30, u "DigitOnes"), (0, u "[B"), (2, u "DigitTens"), (99, .class_ 190), (0, u "java/lang/Integer$IntegerCache"), (3, u "I"), (8, .class_ 204), (0, u "java/lang/Number"), (2, u "value"), (56, .integer 65536), (37, u "TYPE"), (0, u "Ljava/lang/Class;"), (0, .class_ 305), (0, u "java/lang/Comparable"), (0, .class_ 307), (0, u "java/lang/constant/Constable"), (0, .class_ 309), (0, u "java/lang/constant/ConstantDesc"), (0, u "MIN_VALUE"), (1, u "MAX_VALUE"), (3, u "SIZE"), (1, u "BYTES"), (1, u "serialVersionUID"), (0, u "J")] 131

def k22c0 : Code := { maxStack := 3, maxLocals := 2, code := jdk_33_method_47_code, exceptionTable := #[], attributes := #[] }
def k22m0 : Method := { name := "numberOfLeadingZeros", desc := "(I)I", sig := { parameters := [.int], returnType := some .int }, accessFlags := 9, code := some k22c0 }
/-- java/lang/Integer -/
def k22 : Class := { plain "java/lang/Integer" (some 13) with
  accessFlags := 49
  interfaces := #[3, 5, 6]
  cf := some (fileOf pool22 1 #[.nestMembers #[189]] #[{ accessFlags := 9, nameIndex := 53, descriptorIndex := 54, attributes := #[] }] 49 203 #[304, 306, 308] #[{ accessFlags := 25, nameIndex := 310, descriptorIndex := 194, attributes := #[] }, { accessFlags := 25, nameIndex := 312, descriptorIndex := 194, attributes := #[] }, { accessFlags := 25, nameIndex := 302, descriptorIndex := 303, attributes := #[] }, { accessFlags := 24, nameIndex := 19, descriptorIndex := 20, attributes := #[] }, { accessFlags := 24, nameIndex := 89, descriptorIndex := 86, attributes := #[] }, { accessFlags := 24, nameIndex := 85, descriptorIndex := 86, attributes := #[] }, { accessFlags := 18, nameIndex := 207, descriptorIndex := 194, attributes := #[] }, { accessFlags := 25, nameIndex := 316, descriptorIndex := 194, attributes := #[] }, { accessFlags := 25, nameIndex := 318, descriptorIndex := 194, attributes := #[] }, { accessFlags := 26, nameIndex := 320, descriptorIndex := 321, attributes := #[] }])
  fields := #[{ name := "MIN_VALUE", type := .int, accessFlags := 25, slot := 0, constantValue := 0 }, { name := "MAX_VALUE", type := .int, accessFlags := 25, slot := 1, constantValue := 0 }, { name := "TYPE", type := (.object "java/lang/Class"), accessFlags := 25, slot := 2, constantValue := 0 }, { name := "digits", type := (.array .char), accessFlags := 24, slot := 3, constantValue := 0 }, { name := "DigitTens", type := (.array .byte), accessFlags := 24, slot := 4, constantValue := 0 }, { name := "DigitOnes", type := (.array .byte), accessFlags := 24, slot := 5, constantValue := 0 }, { name := "value", type := .int, accessFlags := 18, slot := 0, constantValue := 0 }, { name := "SIZE", type := .int, accessFlags := 25, slot := 6, constantValue := 0 }, { name := "BYTES", type := .int, accessFlags := 25, slot := 7, constantValue := 0 }, { name := "serialVersionUID", type := .long, accessFlags := 26, slot := 8, constantValue := 0 }]
  methods := #[k22m0]
  instanceTypes := #[.int]
  staticTypes := #[.int, .int, (.object "java/lang/Class"), (.array .char), (.array .byte), (.array .byte), .int, .int, .long]
  resolved := Array.replicate 453 none
  statics := none }

def pool23 : Array CpInfo := pool [(1, .class_ 2), (0, u "java/lang/Cloneable"), (0, .class_ 4), (0, u "java/lang/Object")] 2

/-- java/lang/Cloneable -/
def k23 : Class := { plain "java/lang/Cloneable" (some 0) with
  accessFlags := 1537
  interfaces := #[]
  cf := some (fileOf pool23 1 #[] #[] 1537 3 #[] #[])
  fields := #[]
  methods := #[]
  instanceTypes := #[]
  staticTypes := #[]
  resolved := Array.replicate 7 none
  statics := none }

def pool24 : Array CpInfo := pool [(9, u "<init>"), (6, .class_ 18), (1, u "java/lang/Object"), (0, u "()V"), (1, .class_ 23), (1, u "jdk/internal/util/ArraysSupport"), (0, u "LOG2_ARRAY_LONG_INDEX_SCALE"), (0, u "I"), (2, u "U"), (0, u "Ljdk/internal/misc/Unsafe;"), (8, u "BIG_ENDIAN"), (0, u "Z"), (8, u "LOG2_BYTE_BIT_SIZE"), (4, u "LOG2_ARRAY_INT_INDEX_SCALE"), (54, u "JLA"), (0, u "Ljdk/internal/access/JavaLangAccess;"), (11, u "LOG2_ARRAY_BOOLEAN_INDEX_SCALE"), (9, u "LOG2_ARRAY_BYTE_INDEX_SCALE"), (5, u "LOG2_ARRAY_CHAR_INDEX_SCALE"), (5, u "LOG2_ARRAY_SHORT_INDEX_SCALE"), (18, u "LOG2_ARRAY_FLOAT_INDEX_SCALE"), (24, u "LOG2_ARRAY_DOUBLE_INDEX_SCALE"), (89, u "T_BOOLEAN"), (2, u "T_CHAR"), (1, u "T_FLOAT"), (1, u "T_DOUBLE"), (1, u "T_BYTE"), (1, u "T_SHORT"), (1, u "T_INT"), (1, u "T_LONG"), (1, u "SOFT_MAX_ARRAY_LENGTH")] 83

def k24m0 : Method := { name := "<init>", desc := "()V", sig := { parameters := [], returnType := none }, accessFlags := 2, code := none }
/-- jdk/internal/util/ArraysSupport -/
def k24 : Class := { plain "jdk/internal/util/ArraysSupport" (some 0) with
  accessFlags := 33
  interfaces := #[]
  cf := some (fileOf pool24 21 #[] #[{ accessFlags := 2, nameIndex := 9, descriptorIndex := 19, attributes := #[] }] 33 16 #[] #[{ accessFlags := 24, nameIndex := 28, descriptorIndex := 29, attributes := #[] }, { accessFlags := 26, nameIndex := 38, descriptorIndex := 39, attributes := #[] }, { accessFlags := 25, nameIndex := 121, descriptorIndex := 25, attributes := #[] }, { accessFlags := 25, nameIndex := 131, descriptorIndex := 25, attributes := #[] }, { accessFlags := 25, nameIndex := 137, descriptorIndex := 25, attributes := #[] }, { accessFlags := 25, nameIndex := 143, descriptorIndex := 25, attributes := #[] }, { accessFlags := 25, nameIndex := 53, descriptorIndex := 25, attributes := #[] }, { accessFlags := 25, nameIndex := 24, descriptorIndex := 25, attributes := #[] }, { accessFlags := 25, nameIndex := 162, descriptorIndex := 25, attributes := #[] }, { accessFlags := 25, nameIndex := 187, descriptorIndex := 25, attributes := #[] }, { accessFlags := 26, nameIndex := 48, descriptorIndex := 25, attributes := #[] }, { accessFlags := 25, nameIndex := 277, descriptorIndex := 25, attributes := #[] }, { accessFlags := 25, nameIndex := 280, descriptorIndex := 25, attributes := #[] }, { accessFlags := 25, nameIndex := 282, descriptorIndex := 25, attributes := #[] }, { accessFlags := 25, nameIndex := 284, descriptorIndex := 25, attributes := #[] }, { accessFlags := 25, nameIndex := 286, descriptorIndex := 25, attributes := #[] }, { accessFlags := 25, nameIndex := 288, descriptorIndex := 25, attributes := #[] }, { accessFlags := 25, nameIndex := 290, descriptorIndex := 25, attributes := #[] }, { accessFlags := 25, nameIndex := 292, descriptorIndex := 25, attributes := #[] }, { accessFlags := 26, nameIndex := 108, descriptorIndex := 109, attributes := #[] }, { accessFlags := 25, nameIndex := 294, descriptorIndex := 25, attributes := #[] }])
  fields := #[{ name := "U", type := (.object "jdk/internal/misc/Unsafe"), accessFlags := 24, slot := 0, constantValue := 0 }, { name := "BIG_ENDIAN", type := .boolean, accessFlags := 26, slot := 1, constantValue := 0 }, { name := "LOG2_ARRAY_BOOLEAN_INDEX_SCALE", type := .int, accessFlags := 25, slot := 2, constantValue := 0 }, { name := "LOG2_ARRAY_BYTE_INDEX_SCALE", type := .int, accessFlags := 25, slot := 3, constantValue := 0 }, { name := "LOG2_ARRAY_CHAR_INDEX_SCALE", type := .int, accessFlags := 25, slot := 4, constantValue := 0 }, { name := "LOG2_ARRAY_SHORT_INDEX_SCALE", type := .int, accessFlags := 25, slot := 5, constantValue := 0 }, { name := "LOG2_ARRAY_INT_INDEX_SCALE", type := .int, accessFlags := 25, slot := 6, constantValue := 0 }, { name := "LOG2_ARRAY_LONG_INDEX_SCALE", type := .int, accessFlags := 25, slot := 7, constantValue := 0 }, { name := "LOG2_ARRAY_FLOAT_INDEX_SCALE", type := .int, accessFlags := 25, slot := 8, constantValue := 0 }, { name := "LOG2_ARRAY_DOUBLE_INDEX_SCALE", type := .int, accessFlags := 25, slot := 9, constantValue := 0 }, { name := "LOG2_BYTE_BIT_SIZE", type := .int, accessFlags := 26, slot := 10, constantValue := 0 }, { name := "T_BOOLEAN", type := .int, accessFlags := 25, slot := 11, constantValue := 0 }, { name := "T_CHAR", type := .int, accessFlags := 25, slot := 12, constantValue := 0 }, { name := "T_FLOAT", type := .int, accessFlags := 25, slot := 13, constantValue := 0 }, { name := "T_DOUBLE", type := .int, accessFlags := 25, slot := 14, constantValue := 0 }, { name := "T_BYTE", type := .int, accessFlags := 25, slot := 15, constantValue := 0 }, { name := "T_SHORT", type := .int, accessFlags := 25, slot := 16, constantValue := 0 }, { name := "T_INT", type := .int, accessFlags := 25, slot := 17, constantValue := 0 }, { name := "T_LONG", type := .int, accessFlags := 25, slot := 18, constantValue := 0 }, { name := "JLA", type := (.object "jdk/internal/access/JavaLangAccess"), accessFlags := 26, slot := 19, constantValue := 0 }, { name := "SOFT_MAX_ARRAY_LENGTH", type := .int, accessFlags := 25, slot := 20, constantValue := 0 }]
  methods := #[k24m0]
  instanceTypes := #[]
  staticTypes := #[(.object "jdk/internal/misc/Unsafe"), .boolean, .int, .int, .int, .int, .int, .int, .int, .int, .int, .int, .int, .int, .int, .int, .int, .int, .int, (.object "jdk/internal/access/JavaLangAccess"), .int]
  resolved := Array.replicate 378 none
  statics := none }

/-- the primitive byte -/
def k25 : Class := { plain "byte" none with kind := .primitive 'B', accessFlags := 0x411 }
/-- [B -/
def k26 : Class := { plain "[B" (some 0) with kind := .array 25 .byte, interfaces := #[23, 2], accessFlags := 1041 }

/-- the primitive char -/
def k27 : Class := { plain "char" none with kind := .primitive 'C', accessFlags := 0x411 }
/-- [C -/
def k28 : Class := { plain "[C" (some 0) with kind := .array 27 .char, interfaces := #[23, 2], accessFlags := 1041 }

/-- the primitive int -/
def k29 : Class := { plain "int" none with kind := .primitive 'I', accessFlags := 0x411 }
/-- [I -/
def k30 : Class := { plain "[I" (some 0) with kind := .array 29 .int, interfaces := #[23, 2], accessFlags := 1041 }

def heap : Heap := #[{ cls := 7, slots := #[.long 0, .int 1, .null, .int 0, .null, .int 0, .int 0], vm := .statics 7 },
  { cls := 9, slots := #[.int 0, .int 0, .int 0, .int 0, .long 0, .int 0, .ref 3], vm := .statics 9 },
  { cls := 21, slots := #[.null, .null, .null], vm := .statics 21 },
  { cls := 15, slots := #[.null, .null, .null, .ref 4], vm := .none },
  { cls := 26, slots := #[.int 48, .int 49, .int 50, .int 51, .int 52, .int 53, .int 54, .int 55, .int 56, .int 57, .int 97, .int 98, .int 99, .int 100, .int 101, .int 102], vm := .none }]
def classes : Array Class := #[k0, k1, k2, k3, k4, k5, k6, k7, k8, k9, k10, k11, k12, k13, k14, k15, k16, k17, k18, k19, k20, k21, k22, k23, k24, k25, k26, k27, k28, k29, k30]
def interned : List (Array UInt16 × Addr) := []
def slotsUsed : Nat := 37
def theMethod : MethodId := ⟨1, 1⟩
def args0 : Array Value := #[.long 5, .int 0, .int 66]
def aboutOver (below : List Frame) : State where
  vm := { classes := classes, interned := interned.toArray }
  heap := heap
  slotsUsed := slotsUsed
  threads := #[{ frames := .invoking theMethod args0 :: below }]
def below0 : List Frame := [.native { method := ⟨0, 0⟩, args := #[] }]
def about1 : State := aboutOver below0
def p0 : Program := .bare "" "" ""
def e0 : Env := launch0.env 0 0 0
theorem w_frames : about1.frames = Frame.invoking theMethod args0 :: below0 := rfl
set_option maxRecDepth 65536 in
theorem w_args : argsFit about1.vm theMethod args0 = true := by decide +kernel
set_option maxRecDepth 65536 in
theorem w_heap : heapFits about1 = true := by decide +kernel
set_option maxRecDepth 65536 in
theorem w_runnable : about1.curStatus? = some .runnable := by decide +kernel
set_option maxRecDepth 65536 in
theorem w_alone : about1.alone = true := by decide +kernel
set_option maxRecDepth 65536 in
theorem w_named : about1.methodNamed? x = some theMethod := by decide +kernel
set_option maxRecDepth 65536 in
theorem w_hears : about1.hears theMethod below0 = true := by decide +kernel
set_option maxRecDepth 65536 in
theorem w_ripe : about1.ripe theMethod args0 below0 = true := by decide +kernel
theorem w_running : about1.status = .running := rfl
set_option maxRecDepth 65536 in
theorem w_room : about1.hasRoom e0.platform room_1 = true :=
  launch0.hasRoom_least _ room_1 (by decide +kernel) (by decide +kernel) (by decide +kernel) (by decide +kernel) (by decide +kernel) (by decide +kernel)
theorem allAtoms_all (ts : List Jvm.Cond) (a : Array Jvm.Value) (st : Jvm.State) : (allAtoms ts).before a st = ts.all (fun c => c.before a st) := by
  induction ts with
  | nil => rfl
  | cons c t ih =>
    show (Jvm.Cond.and c (allAtoms t)).before a st = _
    rw [Jvm.Cond.before_and, ih, List.all_cons]
def words1 : List Jvm.Cond := Jvm.Cond.code x code maxLocals ret :: tables_1
/-- a 'code' word, met by the world's own term for the bytes: nothing is compared byte by byte -/
theorem code_word {y : MethodName} {bytes : ByteArray} {mx : Nat} {rt : Option FieldType} {a : Array Value} {s : State} {m : MethodId} {meth : Method} {c : Code} (h1 : s.methodNamed? y = some m) (h2 : s.vm.method? m = some meth) (h3 : meth.code = some c) (h4 : c.code = bytes)
    (h5 : (c.maxLocals == mx && c.exceptionTable.isEmpty && decide (c.maxStack ≤ mostOperands) && decide (meth.sig.returnType = rt) && !meth.locks && decide (parseMethodDescriptor y.desc = some meth.sig)) = true) : (Jvm.Cond.code y bytes mx rt).before a s = true := by
  simp only [Bool.and_eq_true, beq_iff_eq, Bool.not_eq_true', decide_eq_true_eq] at h5
  obtain ⟨⟨⟨⟨⟨g1, g2⟩, g3⟩, g4⟩, g5⟩, g6⟩ := h5
  simp [Cond.before, Cond.holds, Cond.value, h1, h2, h3, h4, g1, g2, g3, g4, g5, g6]
def isCode : Jvm.Cond → Bool
  | .code _ _ _ _ => true
  | _ => false
theorem all_split {L : List Jvm.Cond} {P : Jvm.Cond → Bool} (h1 : L.all (fun c => isCode c || P c) = true) (h2 : ∀ c ∈ L.filter isCode, P c = true) : L.all P = true := by
  refine List.all_eq_true.mpr fun c hc => ?_
  have h := List.all_eq_true.mp h1 c hc
  rcases Bool.eq_false_or_eq_true (isCode c) with hi | hi
  · exact h2 c (List.mem_filter.mpr ⟨hc, hi⟩)
  · simpa [hi] using h
set_option maxRecDepth 65536 in
theorem w_c0 : (Jvm.Cond.code x code maxLocals ret).before args0 about1 = true := code_word (m := ⟨1, 1⟩) (meth := k1m1) (c := k1c1) (by decide +kernel) rfl rfl rfl (by decide +kernel)
set_option maxRecDepth 65536 in
theorem w_c1 : (Jvm.Cond.code ({ cls := "java/lang/String", name := "<init>", desc := "([C)V" } : Jvm.MethodName) jdk_42_method_3_code (2 : Nat) (Option.none : Option Jvm.ClassFile.FieldType)).before args0 about1 = true := code_word (m := ⟨7, 1⟩) (meth := k7m1) (c := k7c1) (by decide +kernel) rfl rfl rfl (by decide +kernel)
set_option maxRecDepth 65536 in
theorem w_c2 : (Jvm.Cond.code ({ cls := "java/lang/String", name := "<init>", desc := "([CIILjava/lang/Void;)V" } : Jvm.MethodName) jdk_42_method_149_code (6 : Nat) (Option.none : Option Jvm.ClassFile.FieldType)).before args0 about1 = true := code_word (m := ⟨7, 6⟩) (meth := k7m6) (c := k7c6) (by decide +kernel) rfl rfl rfl (by decide +kernel)
set_option maxRecDepth 65536 in
theorem w_c3 : (Jvm.Cond.code ({ cls := "java/lang/Object", name := "<init>", desc := "()V" } : Jvm.MethodName) object_method_1_code (1 : Nat) (Option.none : Option Jvm.ClassFile.FieldType)).before args0 about1 = true := code_word (m := ⟨0, 0⟩) (meth := k0m0) (c := k0c0) (by decide +kernel) rfl rfl rfl (by decide +kernel)
set_option maxRecDepth 65536 in
theorem w_c4 : (Jvm.Cond.code ({ cls := "java/lang/StringUTF16", name := "compress", desc := "([CII)[B" } : Jvm.MethodName) jdk_52_method_16_code (6 : Nat) (Option.some (Jvm.ClassFile.FieldType.array Jvm.ClassFile.FieldType.byte))).before args0 about1 = true := code_word (m := ⟨8, 2⟩) (meth := k8m2) (c := k8c2) (by decide +kernel) rfl rfl rfl (by decide +kernel)
set_option maxRecDepth 65536 in
theorem w_c5 : (Jvm.Cond.code ({ cls := "java/lang/StringUTF16", name := "compress", desc := "([CI[BII)I" } : Jvm.MethodName) jdk_52_method_21_code (7 : Nat) (Option.some Jvm.ClassFile.FieldType.int)).before args0 about1 = true := code_word (m := ⟨8, 3⟩) (meth := k8m3) (c := k8c3) (by decide +kernel) rfl rfl rfl (by decide +kernel)
set_option maxRecDepth 65536 in
theorem w_c6 : (Jvm.Cond.code ({ cls := "java/lang/StringUTF16", name := "coderFromArrayLen", desc := "([BI)B" } : Jvm.MethodName) jdk_52_method_15_code (2 : Nat) (Option.some Jvm.ClassFile.FieldType.byte)).before args0 about1 = true := code_word (m := ⟨8, 1⟩) (meth := k8m1) (c := k8c1) (by decide +kernel) rfl rfl rfl (by decide +kernel)
set_option maxRecDepth 65536 in
theorem w_c7 : (Jvm.Cond.code ({ cls := "com/example/patterns_to_partitions/patternstopartitions/key/UintKey", name := "encode", desc := "(J)Ljava/lang/String;" } : Jvm.MethodName) prog_26_method_2_code (7 : Nat) (Option.some (Jvm.ClassFile.FieldType.object "java/lang/String"))).before args0 about1 = true := code_word (m := ⟨9, 1⟩) (meth := k9m1) (c := k9c1) (by decide +kernel) rfl rfl rfl (by decide +kernel)
set_option maxRecDepth 65536 in
theorem w_c8 : (Jvm.Cond.code ({ cls := "java/lang/StringBuilder", name := "<init>", desc := "(I)V" } : Jvm.MethodName) jdk_67_method_2_code (2 : Nat) (Option.none : Option Jvm.ClassFile.FieldType)).before args0 about1 = true := code_word (m := ⟨12, 1⟩) (meth := k12m1) (c := k12c1) (by decide +kernel) rfl rfl rfl (by decide +kernel)
set_option maxRecDepth 65536 in
theorem w_c9 : (Jvm.Cond.code ({ cls := "java/lang/AbstractStringBuilder", name := "<init>", desc := "(I)V" } : Jvm.MethodName) jdk_68_method_2_code (2 : Nat) (Option.none : Option Jvm.ClassFile.FieldType)).before args0 about1 = true := code_word (m := ⟨11, 1⟩) (meth := k11m1) (c := k11c1) (by decide +kernel) rfl rfl rfl (by decide +kernel)
set_option maxRecDepth 65536 in
theorem w_c10 : (Jvm.Cond.code ({ cls := "java/lang/Long", name := "compareUnsigned", desc := "(JJ)I" } : Jvm.MethodName) jdk_35_method_43_code (4 : Nat) (Option.some Jvm.ClassFile.FieldType.int)).before args0 about1 = true := code_word (m := ⟨14, 1⟩) (meth := k14m1) (c := k14c1) (by decide +kernel) rfl rfl rfl (by decide +kernel)
set_option maxRecDepth 65536 in
theorem w_c11 : (Jvm.Cond.code ({ cls := "java/lang/Long", name := "compare", desc := "(JJ)I" } : Jvm.MethodName) jdk_35_method_42_code (4 : Nat) (Option.some Jvm.ClassFile.FieldType.int)).before args0 about1 = true := code_word (m := ⟨14, 0⟩) (meth := k14m0) (c := k14c0) (by decide +kernel) rfl rfl rfl (by decide +kernel)
set_option maxRecDepth 65536 in
theorem w_c12 : (Jvm.Cond.code ({ cls := "java/util/Objects", name := "requireNonNull", desc := "(Ljava/lang/Object;Ljava/lang/String;)Ljava/lang/Object;" } : Jvm.MethodName) jdk_31_method_11_code (2 : Nat) (Option.some (Jvm.ClassFile.FieldType.object "java/lang/Object"))).before args0 about1 = true := code_word (m := ⟨16, 1⟩) (meth := k16m1) (c := k16c1) (by decide +kernel) rfl rfl rfl (by decide +kernel)
set_option maxRecDepth 65536 in
theorem w_c13 : (Jvm.Cond.code ({ cls := "java/util/HexFormat", name := "toHighHexDigit", desc := "(I)C" } : Jvm.MethodName) jdk_2580_method_25_code (2 : Nat) (Option.some Jvm.ClassFile.FieldType.char)).before args0 about1 = true := code_word (m := ⟨15, 1⟩) (meth := k15m1) (c := k15c1) (by decide +kernel) rfl rfl rfl (by decide +kernel)
set_option maxRecDepth 65536 in
theorem w_c14 : (Jvm.Cond.code ({ cls := "java/lang/StringBuilder", name := "append", desc := "(C)Ljava/lang/Appendable;" } : Jvm.MethodName) jdk_67_method_94_code (2 : Nat) (Option.some (Jvm.ClassFile.FieldType.object "java/lang/Appendable"))).before args0 about1 = true := code_word (m := ⟨12, 5⟩) (meth := k12m5) (c := k12c5) (by decide +kernel) rfl rfl rfl (by decide +kernel)
set_option maxRecDepth 65536 in
theorem w_c15 : (Jvm.Cond.code ({ cls := "java/lang/StringBuilder", name := "append", desc := "(C)Ljava/lang/StringBuilder;" } : Jvm.MethodName) jdk_67_method_14_code (2 : Nat) (Option.some (Jvm.ClassFile.FieldType.object "java/lang/StringBuilder"))).before args0 about1 = true := code_word (m := ⟨12, 2⟩) (meth := k12m2) (c := k12c2) (by decide +kernel) rfl rfl rfl (by decide +kernel)
set_option maxRecDepth 65536 in
theorem w_c16 : (Jvm.Cond.code ({ cls := "java/lang/AbstractStringBuilder", name := "append", desc := "(C)Ljava/lang/AbstractStringBuilder;" } : Jvm.MethodName) jdk_68_method_31_code (2 : Nat) (Option.some (Jvm.ClassFile.FieldType.object "java/lang/AbstractStringBuilder"))).before args0 about1 = true := code_word (m := ⟨11, 4⟩) (meth := k11m4) (c := k11c4) (by decide +kernel) rfl rfl rfl (by decide +kernel)
set_option maxRecDepth 65536 in
theorem w_c17 : (Jvm.Cond.code ({ cls := "java/lang/AbstractStringBuilder", name := "ensureCapacityInternal", desc := "(I)V" } : Jvm.MethodName) jdk_68_method_9_code (3 : Nat) (Option.none : Option Jvm.ClassFile.FieldType)).before args0 about1 = true := code_word (m := ⟨11, 3⟩) (meth := k11m3) (c := k11c3) (by decide +kernel) rfl rfl rfl (by decide +kernel)
set_option maxRecDepth 65536 in
theorem w_c18 : (Jvm.Cond.code ({ cls := "java/lang/AbstractStringBuilder", name := "isLatin1", desc := "()Z" } : Jvm.MethodName) jdk_68_method_68_code (1 : Nat) (Option.some Jvm.ClassFile.FieldType.boolean)).before args0 about1 = true := code_word (m := ⟨11, 6⟩) (meth := k11m6) (c := k11c6) (by decide +kernel) rfl rfl rfl (by decide +kernel)
set_option maxRecDepth 65536 in
theorem w_c19 : (Jvm.Cond.code ({ cls := "java/lang/StringLatin1", name := "canEncode", desc := "(C)Z" } : Jvm.MethodName) jdk_43_method_3_code (1 : Nat) (Option.some Jvm.ClassFile.FieldType.boolean)).before args0 about1 = true := code_word (m := ⟨17, 2⟩) (meth := k17m2) (c := k17c2) (by decide +kernel) rfl rfl rfl (by decide +kernel)
set_option maxRecDepth 65536 in
theorem w_c20 : (Jvm.Cond.code ({ cls := "java/util/HexFormat", name := "toLowHexDigit", desc := "(I)C" } : Jvm.MethodName) jdk_2580_method_24_code (2 : Nat) (Option.some Jvm.ClassFile.FieldType.char)).before args0 about1 = true := code_word (m := ⟨15, 0⟩) (meth := k15m0) (c := k15c0) (by decide +kernel) rfl rfl rfl (by decide +kernel)
set_option maxRecDepth 65536 in
theorem w_c21 : (Jvm.Cond.code ({ cls := "java/lang/StringBuilder", name := "toString", desc := "()Ljava/lang/String;" } : Jvm.MethodName) jdk_67_method_42_code (1 : Nat) (Option.some (Jvm.ClassFile.FieldType.object "java/lang/String"))).before args0 about1 = true := code_word (m := ⟨12, 3⟩) (meth := k12m3) (c := k12c3) (by decide +kernel) rfl rfl rfl (by decide +kernel)
set_option maxRecDepth 65536 in
theorem w_c22 : (Jvm.Cond.code ({ cls := "java/lang/String", name := "<init>", desc := "(Ljava/lang/StringBuilder;)V" } : Jvm.MethodName) jdk_42_method_53_code (2 : Nat) (Option.none : Option Jvm.ClassFile.FieldType)).before args0 about1 = true := code_word (m := ⟨7, 2⟩) (meth := k7m2) (c := k7c2) (by decide +kernel) rfl rfl rfl (by decide +kernel)
set_option maxRecDepth 65536 in
theorem w_c23 : (Jvm.Cond.code ({ cls := "java/lang/String", name := "<init>", desc := "(Ljava/lang/AbstractStringBuilder;Ljava/lang/Void;)V" } : Jvm.MethodName) jdk_42_method_150_code (5 : Nat) (Option.none : Option Jvm.ClassFile.FieldType)).before args0 about1 = true := code_word (m := ⟨7, 7⟩) (meth := k7m7) (c := k7c7) (by decide +kernel) rfl rfl rfl (by decide +kernel)
set_option maxRecDepth 65536 in
theorem w_c24 : (Jvm.Cond.code ({ cls := "java/lang/AbstractStringBuilder", name := "getValue", desc := "()[B" } : Jvm.MethodName) jdk_68_method_64_code (1 : Nat) (Option.some (Jvm.ClassFile.FieldType.array Jvm.ClassFile.FieldType.byte))).before args0 about1 = true := code_word (m := ⟨11, 5⟩) (meth := k11m5) (c := k11c5) (by decide +kernel) rfl rfl rfl (by decide +kernel)
set_option maxRecDepth 65536 in
theorem w_c25 : (Jvm.Cond.code ({ cls := "java/lang/StringBuilder", name := "length", desc := "()I" } : Jvm.MethodName) jdk_67_method_93_code (1 : Nat) (Option.some Jvm.ClassFile.FieldType.int)).before args0 about1 = true := code_word (m := ⟨12, 4⟩) (meth := k12m4) (c := k12c4) (by decide +kernel) rfl rfl rfl (by decide +kernel)
set_option maxRecDepth 65536 in
theorem w_c26 : (Jvm.Cond.code ({ cls := "java/lang/AbstractStringBuilder", name := "length", desc := "()I" } : Jvm.MethodName) jdk_68_method_6_code (1 : Nat) (Option.some Jvm.ClassFile.FieldType.int)).before args0 about1 = true := code_word (m := ⟨11, 2⟩) (meth := k11m2) (c := k11c2) (by decide +kernel) rfl rfl rfl (by decide +kernel)
set_option maxRecDepth 65536 in
theorem w_c27 : (Jvm.Cond.code ({ cls := "java/util/Arrays", name := "copyOfRange", desc := "([BII)[B" } : Jvm.MethodName) jdk_65_method_132_code (3 : Nat) (Option.some (Jvm.ClassFile.FieldType.array Jvm.ClassFile.FieldType.byte))).before args0 about1 = true := code_word (m := ⟨18, 2⟩) (meth := k18m2) (c := k18c2) (by decide +kernel) rfl rfl rfl (by decide +kernel)
set_option maxRecDepth 65536 in
theorem w_c28 : (Jvm.Cond.code ({ cls := "java/util/Arrays", name := "copyOfRangeByte", desc := "([BII)[B" } : Jvm.MethodName) jdk_65_method_133_code (5 : Nat) (Option.some (Jvm.ClassFile.FieldType.array Jvm.ClassFile.FieldType.byte))).before args0 about1 = true := code_word (m := ⟨18, 3⟩) (meth := k18m3) (c := k18c3) (by decide +kernel) rfl rfl rfl (by decide +kernel)
set_option maxRecDepth 65536 in
theorem w_c29 : (Jvm.Cond.code ({ cls := "java/util/Arrays", name := "checkLength", desc := "(II)V" } : Jvm.MethodName) jdk_65_method_131_code (2 : Nat) (Option.none : Option Jvm.ClassFile.FieldType)).before args0 about1 = true := code_word (m := ⟨18, 1⟩) (meth := k18m1) (c := k18c1) (by decide +kernel) rfl rfl rfl (by decide +kernel)
set_option maxRecDepth 65536 in
theorem w_c30 : (Jvm.Cond.code ({ cls := "java/lang/Math", name := "min", desc := "(II)I" } : Jvm.MethodName) jdk_29_method_69_code (2 : Nat) (Option.some Jvm.ClassFile.FieldType.int)).before args0 about1 = true := code_word (m := ⟨19, 2⟩) (meth := k19m2) (c := k19c2) (by decide +kernel) rfl rfl rfl (by decide +kernel)
set_option maxRecDepth 65536 in
theorem w_c31 : (Jvm.Cond.code ({ cls := "com/example/patterns_to_partitions/patternstopartitions/key/UintKey", name := "decode", desc := "(Ljava/lang/String;Ljava/lang/String;)J" } : Jvm.MethodName) prog_26_method_4_code (9 : Nat) (Option.some Jvm.ClassFile.FieldType.long)).before args0 about1 = true := code_word (m := ⟨9, 2⟩) (meth := k9m2) (c := k9c2) (by decide +kernel) rfl rfl rfl (by decide +kernel)
set_option maxRecDepth 65536 in
theorem w_c32 : (Jvm.Cond.code ({ cls := "java/lang/String", name := "isEmpty", desc := "()Z" } : Jvm.MethodName) jdk_42_method_55_code (1 : Nat) (Option.some Jvm.ClassFile.FieldType.boolean)).before args0 about1 = true := code_word (m := ⟨7, 4⟩) (meth := k7m4) (c := k7c4) (by decide +kernel) rfl rfl rfl (by decide +kernel)
set_option maxRecDepth 65536 in
theorem w_c33 : (Jvm.Cond.code ({ cls := "java/lang/String", name := "length", desc := "()I" } : Jvm.MethodName) jdk_42_method_54_code (1 : Nat) (Option.some Jvm.ClassFile.FieldType.int)).before args0 about1 = true := code_word (m := ⟨7, 3⟩) (meth := k7m3) (c := k7c3) (by decide +kernel) rfl rfl rfl (by decide +kernel)
set_option maxRecDepth 65536 in
theorem w_c34 : (Jvm.Cond.code ({ cls := "java/lang/String", name := "coder", desc := "()B" } : Jvm.MethodName) jdk_42_method_152_code (1 : Nat) (Option.some Jvm.ClassFile.FieldType.byte)).before args0 about1 = true := code_word (m := ⟨7, 8⟩) (meth := k7m8) (c := k7c8) (by decide +kernel) rfl rfl rfl (by decide +kernel)
set_option maxRecDepth 65536 in
theorem w_c35 : (Jvm.Cond.code ({ cls := "com/example/patterns_to_partitions/patternstopartitions/key/UintKey", name := "byteAt", desc := "(Ljava/lang/String;Ljava/lang/String;I)I" } : Jvm.MethodName) prog_26_method_6_code (5 : Nat) (Option.some Jvm.ClassFile.FieldType.int)).before args0 about1 = true := code_word (m := ⟨9, 4⟩) (meth := k9m4) (c := k9c4) (by decide +kernel) rfl rfl rfl (by decide +kernel)
set_option maxRecDepth 65536 in
theorem w_c36 : (Jvm.Cond.code ({ cls := "java/lang/String", name := "charAt", desc := "(I)C" } : Jvm.MethodName) jdk_42_method_56_code (2 : Nat) (Option.some Jvm.ClassFile.FieldType.char)).before args0 about1 = true := code_word (m := ⟨7, 5⟩) (meth := k7m5) (c := k7c5) (by decide +kernel) rfl rfl rfl (by decide +kernel)
set_option maxRecDepth 65536 in
theorem w_c37 : (Jvm.Cond.code ({ cls := "java/lang/String", name := "isLatin1", desc := "()Z" } : Jvm.MethodName) jdk_42_method_154_code (1 : Nat) (Option.some Jvm.ClassFile.FieldType.boolean)).before args0 about1 = true := code_word (m := ⟨7, 9⟩) (meth := k7m9) (c := k7c9) (by decide +kernel) rfl rfl rfl (by decide +kernel)
set_option maxRecDepth 65536 in
theorem w_c38 : (Jvm.Cond.code ({ cls := "java/lang/StringLatin1", name := "charAt", desc := "([BI)C" } : Jvm.MethodName) jdk_43_method_2_code (2 : Nat) (Option.some Jvm.ClassFile.FieldType.char)).before args0 about1 = true := code_word (m := ⟨17, 1⟩) (meth := k17m1) (c := k17c1) (by decide +kernel) rfl rfl rfl (by decide +kernel)
set_option maxRecDepth 65536 in
theorem w_c39 : (Jvm.Cond.code ({ cls := "java/lang/String", name := "checkIndex", desc := "(II)V" } : Jvm.MethodName) jdk_42_method_155_code (2 : Nat) (Option.none : Option Jvm.ClassFile.FieldType)).before args0 about1 = true := code_word (m := ⟨7, 10⟩) (meth := k7m10) (c := k7c10) (by decide +kernel) rfl rfl rfl (by decide +kernel)
set_option maxRecDepth 65536 in
theorem w_c40 : (Jvm.Cond.code ({ cls := "jdk/internal/util/Preconditions", name := "checkIndex", desc := "(IILjava/util/function/BiFunction;)I" } : Jvm.MethodName) jdk_41_method_11_code (3 : Nat) (Option.some Jvm.ClassFile.FieldType.int)).before args0 about1 = true := code_word (m := ⟨21, 1⟩) (meth := k21m1) (c := k21c1) (by decide +kernel) rfl rfl rfl (by decide +kernel)
set_option maxRecDepth 65536 in
theorem w_c41 : (Jvm.Cond.code ({ cls := "com/example/patterns_to_partitions/patternstopartitions/key/UintKey", name := "hexDigit", desc := "(C)I" } : Jvm.MethodName) prog_26_method_7_code (2 : Nat) (Option.some Jvm.ClassFile.FieldType.int)).before args0 about1 = true := code_word (m := ⟨9, 5⟩) (meth := k9m5) (c := k9c5) (by decide +kernel) rfl rfl rfl (by decide +kernel)
set_option maxRecDepth 65536 in
theorem w_c42 : (Jvm.Cond.code ({ cls := "com/example/patterns_to_partitions/patternstopartitions/key/UintKey", name := "byteLength", desc := "(J)I" } : Jvm.MethodName) prog_26_method_5_code (3 : Nat) (Option.some Jvm.ClassFile.FieldType.int)).before args0 about1 = true := code_word (m := ⟨9, 3⟩) (meth := k9m3) (c := k9c3) (by decide +kernel) rfl rfl rfl (by decide +kernel)
set_option maxRecDepth 65536 in
theorem w_c43 : (Jvm.Cond.code ({ cls := "java/lang/Long", name := "numberOfLeadingZeros", desc := "(J)I" } : Jvm.MethodName) jdk_35_method_48_code (3 : Nat) (Option.some Jvm.ClassFile.FieldType.int)).before args0 about1 = true := code_word (m := ⟨14, 2⟩) (meth := k14m2) (c := k14c2) (by decide +kernel) rfl rfl rfl (by decide +kernel)
set_option maxRecDepth 65536 in
theorem w_c44 : (Jvm.Cond.code ({ cls := "java/lang/Integer", name := "numberOfLeadingZeros", desc := "(I)I" } : Jvm.MethodName) jdk_33_method_47_code (2 : Nat) (Option.some Jvm.ClassFile.FieldType.int)).before args0 about1 = true := code_word (m := ⟨22, 0⟩) (meth := k22m0) (c := k22c0) (by decide +kernel) rfl rfl rfl (by decide +kernel)
set_option maxRecDepth 65536 in
theorem w_c45 : (Jvm.Cond.code ({ cls := "java/lang/Math", name := "max", desc := "(II)I" } : Jvm.MethodName) jdk_29_method_65_code (2 : Nat) (Option.some Jvm.ClassFile.FieldType.int)).before args0 about1 = true := code_word (m := ⟨19, 1⟩) (meth := k19m1) (c := k19c1) (by decide +kernel) rfl rfl rfl (by decide +kernel)
def codes1 : List Jvm.Cond := [Jvm.Cond.code x code maxLocals ret, Jvm.Cond.code ({ cls := "java/lang/String", name := "<init>", desc := "([C)V" } : Jvm.MethodName) jdk_42_method_3_code (2 : Nat) (Option.none : Option Jvm.ClassFile.FieldType), Jvm.Cond.code ({ cls := "java/lang/String", name := "<init>", desc := "([CIILjava/lang/Void;)V" } : Jvm.MethodName) jdk_42_method_149_code (6 : Nat) (Option.none : Option Jvm.ClassFile.FieldType), Jvm.Cond.code ({ cls := "java/lang/Object", name := "<init>", desc := "()V" } : Jvm.MethodName) object_method_1_code (1 : Nat) (Option.none : Option Jvm.ClassFile.FieldType), Jvm.Cond.code ({ cls := "java/lang/StringUTF16", name := "compress", desc := "([CII)[B" } : Jvm.MethodName) jdk_52_method_16_code (6 : Nat) (Option.some (Jvm.ClassFile.FieldType.array Jvm.ClassFile.FieldType.byte)), Jvm.Cond.code ({ cls := "java/lang/StringUTF16", name := "compress", desc := "([CI[BII)I" } : Jvm.MethodName) jdk_52_method_21_code (7 : Nat) (Option.some Jvm.ClassFile.FieldType.int), Jvm.Cond.code ({ cls := "java/lang/StringUTF16", name := "coderFromArrayLen", desc := "([BI)B" } : Jvm.MethodName) jdk_52_method_15_code (2 : Nat) (Option.some Jvm.ClassFile.FieldType.byte), Jvm.Cond.code ({ cls := "com/example/patterns_to_partitions/patternstopartitions/key/UintKey", name := "encode", desc := "(J)Ljava/lang/String;" } : Jvm.MethodName) prog_26_method_2_code (7 : Nat) (Option.some (Jvm.ClassFile.FieldType.object "java/lang/String")), Jvm.Cond.code ({ cls := "java/lang/StringBuilder", name := "<init>", desc := "(I)V" } : Jvm.MethodName) jdk_67_method_2_code (2 : Nat) (Option.none : Option Jvm.ClassFile.FieldType), Jvm.Cond.code ({ cls := "java/lang/AbstractStringBuilder", name := "<init>", desc := "(I)V" } : Jvm.MethodName) jdk_68_method_2_code (2 : Nat) (Option.none : Option Jvm.ClassFile.FieldType), Jvm.Cond.code ({ cls := "java/lang/Long", name := "compareUnsigned", desc := "(JJ)I" } : Jvm.MethodName) jdk_35_method_43_code (4 : Nat) (Option.some Jvm.ClassFile.FieldType.int), Jvm.Cond.code ({ cls := "java/lang/Long", name := "compare", desc := "(JJ)I" } : Jvm.MethodName) jdk_35_method_42_code (4 : Nat) (Option.some Jvm.ClassFile.FieldType.int), Jvm.Cond.code ({ cls := "java/util/Objects", name := "requireNonNull", desc := "(Ljava/lang/Object;Ljava/lang/String;)Ljava/lang/Object;" } : Jvm.MethodName) jdk_31_method_11_code (2 : Nat) (Option.some (Jvm.ClassFile.FieldType.object "java/lang/Object")), Jvm.Cond.code ({ cls := "java/util/HexFormat", name := "toHighHexDigit", desc := "(I)C" } : Jvm.MethodName) jdk_2580_method_25_code (2 : Nat) (Option.some Jvm.ClassFile.FieldType.char), Jvm.Cond.code ({ cls := "java/lang/StringBuilder", name := "append", desc := "(C)Ljava/lang/Appendable;" } : Jvm.MethodName) jdk_67_method_94_code (2 : Nat) (Option.some (Jvm.ClassFile.FieldType.object "java/lang/Appendable")), Jvm.Cond.code ({ cls := "java/lang/StringBuilder", name := "append", desc := "(C)Ljava/lang/StringBuilder;" } : Jvm.MethodName) jdk_67_method_14_code (2 : Nat) (Option.some (Jvm.ClassFile.FieldType.object "java/lang/StringBuilder")), Jvm.Cond.code ({ cls := "java/lang/AbstractStringBuilder", name := "append", desc := "(C)Ljava/lang/AbstractStringBuilder;" } : Jvm.MethodName) jdk_68_method_31_code (2 : Nat) (Option.some (Jvm.ClassFile.FieldType.object "java/lang/AbstractStringBuilder")), Jvm.Cond.code ({ cls := "java/lang/AbstractStringBuilder", name := "ensureCapacityInternal", desc := "(I)V" } : Jvm.MethodName) jdk_68_method_9_code (3 : Nat) (Option.none : Option Jvm.ClassFile.FieldType), Jvm.Cond.code ({ cls := "java/lang/AbstractStringBuilder", name := "isLatin1", desc := "()Z" } : Jvm.MethodName) jdk_68_method_68_code (1 : Nat) (Option.some Jvm.ClassFile.FieldType.boolean), Jvm.Cond.code ({ cls := "java/lang/StringLatin1", name := "canEncode", desc := "(C)Z" } : Jvm.MethodName) jdk_43_method_3_code (1 : Nat) (Option.some Jvm.ClassFile.FieldType.boolean), Jvm.Cond.code ({ cls := "java/util/HexFormat", name := "toLowHexDigit", desc := "(I)C" } : Jvm.MethodName) jdk_2580_method_24_code (2 : Nat) (Option.some Jvm.ClassFile.FieldType.char), Jvm.Cond.code ({ cls := "java/lang/StringBuilder", name := "toString", desc := "()Ljava/lang/String;" } : Jvm.MethodName) jdk_67_method_42_code (1 : Nat) (Option.some (Jvm.ClassFile.FieldType.object "java/lang/String")), Jvm.Cond.code ({ cls := "java/lang/String", name := "<init>", desc := "(Ljava/lang/StringBuilder;)V" } : Jvm.MethodName) jdk_42_method_53_code (2 : Nat) (Option.none : Option Jvm.ClassFile.FieldType), Jvm.Cond.code ({ cls := "java/lang/String", name := "<init>", desc := "(Ljava/lang/AbstractStringBuilder;Ljava/lang/Void;)V" } : Jvm.MethodName) jdk_42_method_150_code (5 : Nat) (Option.none : Option Jvm.ClassFile.FieldType), Jvm.Cond.code ({ cls := "java/lang/AbstractStringBuilder", name := "getValue", desc := "()[B" } : Jvm.MethodName) jdk_68_method_64_code (1 : Nat) (Option.some (Jvm.ClassFile.FieldType.array Jvm.ClassFile.FieldType.byte)), Jvm.Cond.code ({ cls := "java/lang/StringBuilder", name := "length", desc := "()I" } : Jvm.MethodName) jdk_67_method_93_code (1 : Nat) (Option.some Jvm.ClassFile.FieldType.int), Jvm.Cond.code ({ cls := "java/lang/AbstractStringBuilder", name := "length", desc := "()I" } : Jvm.MethodName) jdk_68_method_6_code (1 : Nat) (Option.some Jvm.ClassFile.FieldType.int), Jvm.Cond.code ({ cls := "java/util/Arrays", name := "copyOfRange", desc := "([BII)[B" } : Jvm.MethodName) jdk_65_method_132_code (3 : Nat) (Option.some (Jvm.ClassFile.FieldType.array Jvm.ClassFile.FieldType.byte)), Jvm.Cond.code ({ cls := "java/util/Arrays", name := "copyOfRangeByte", desc := "([BII)[B" } : Jvm.MethodName) jdk_65_method_133_code (5 : Nat) (Option.some (Jvm.ClassFile.FieldType.array Jvm.ClassFile.FieldType.byte)), Jvm.Cond.code ({ cls := "java/util/Arrays", name := "checkLength", desc := "(II)V" } : Jvm.MethodName) jdk_65_method_131_code (2 : Nat) (Option.none : Option Jvm.ClassFile.FieldType), Jvm.Cond.code ({ cls := "java/lang/Math", name := "min", desc := "(II)I" } : Jvm.MethodName) jdk_29_method_69_code (2 : Nat) (Option.some Jvm.ClassFile.FieldType.int), Jvm.Cond.code ({ cls := "com/example/patterns_to_partitions/patternstopartitions/key/UintKey", name := "decode", desc := "(Ljava/lang/String;Ljava/lang/String;)J" } : Jvm.MethodName) prog_26_method_4_code (9 : Nat) (Option.some Jvm.ClassFile.FieldType.long), Jvm.Cond.code ({ cls := "java/lang/String", name := "isEmpty", desc := "()Z" } : Jvm.MethodName) jdk_42_method_55_code (1 : Nat) (Option.some Jvm.ClassFile.FieldType.boolean), Jvm.Cond.code ({ cls := "java/lang/String", name := "length", desc := "()I" } : Jvm.MethodName) jdk_42_method_54_code (1 : Nat) (Option.some Jvm.ClassFile.FieldType.int), Jvm.Cond.code ({ cls := "java/lang/String", name := "coder", desc := "()B" } : Jvm.MethodName) jdk_42_method_152_code (1 : Nat) (Option.some Jvm.ClassFile.FieldType.byte), Jvm.Cond.code ({ cls := "com/example/patterns_to_partitions/patternstopartitions/key/UintKey", name := "byteAt", desc := "(Ljava/lang/String;Ljava/lang/String;I)I" } : Jvm.MethodName) prog_26_method_6_code (5 : Nat) (Option.some Jvm.ClassFile.FieldType.int), Jvm.Cond.code ({ cls := "java/lang/String", name := "charAt", desc := "(I)C" } : Jvm.MethodName) jdk_42_method_56_code (2 : Nat) (Option.some Jvm.ClassFile.FieldType.char), Jvm.Cond.code ({ cls := "java/lang/String", name := "isLatin1", desc := "()Z" } : Jvm.MethodName) jdk_42_method_154_code (1 : Nat) (Option.some Jvm.ClassFile.FieldType.boolean), Jvm.Cond.code ({ cls := "java/lang/StringLatin1", name := "charAt", desc := "([BI)C" } : Jvm.MethodName) jdk_43_method_2_code (2 : Nat) (Option.some Jvm.ClassFile.FieldType.char), Jvm.Cond.code ({ cls := "java/lang/String", name := "checkIndex", desc := "(II)V" } : Jvm.MethodName) jdk_42_method_155_code (2 : Nat) (Option.none : Option Jvm.ClassFile.FieldType), Jvm.Cond.code ({ cls := "jdk/internal/util/Preconditions", name := "checkIndex", desc := "(IILjava/util/function/BiFunction;)I" } : Jvm.MethodName) jdk_41_method_11_code (3 : Nat) (Option.some Jvm.ClassFile.FieldType.int), Jvm.Cond.code ({ cls := "com/example/patterns_to_partitions/patternstopartitions/key/UintKey", name := "hexDigit", desc := "(C)I" } : Jvm.MethodName) prog_26_method_7_code (2 : Nat) (Option.some Jvm.ClassFile.FieldType.int), Jvm.Cond.code ({ cls := "com/example/patterns_to_partitions/patternstopartitions/key/UintKey", name := "byteLength", desc := "(J)I" } : Jvm.MethodName) prog_26_method_5_code (3 : Nat) (Option.some Jvm.ClassFile.FieldType.int), Jvm.Cond.code ({ cls := "java/lang/Long", name := "numberOfLeadingZeros", desc := "(J)I" } : Jvm.MethodName) jdk_35_method_48_code (3 : Nat) (Option.some Jvm.ClassFile.FieldType.int), Jvm.Cond.code ({ cls := "java/lang/Integer", name := "numberOfLeadingZeros", desc := "(I)I" } : Jvm.MethodName) jdk_33_method_47_code (2 : Nat) (Option.some Jvm.ClassFile.FieldType.int), Jvm.Cond.code ({ cls := "java/lang/Math", name := "max", desc := "(II)I" } : Jvm.MethodName) jdk_29_method_65_code (2 : Nat) (Option.some Jvm.ClassFile.FieldType.int)]
set_option maxRecDepth 65536 in
theorem codes_eq : words1.filter isCode = codes1 := rfl
theorem w_codes : ∀ c ∈ words1.filter isCode, c.before args0 about1 = true := by
  rw [codes_eq]
  intro c hc
  simp only [codes1, List.mem_cons, List.not_mem_nil, or_false] at hc
  rcases hc with rfl | rfl | rfl | rfl | rfl | rfl | rfl | rfl | rfl | rfl | rfl | rfl | rfl | rfl | rfl | rfl | rfl | rfl | rfl | rfl | rfl | rfl | rfl | rfl | rfl | rfl | rfl | rfl | rfl | rfl | rfl | rfl | rfl | rfl | rfl | rfl | rfl | rfl | rfl | rfl | rfl | rfl | rfl | rfl | rfl | rfl
  · exact w_c0
  · exact w_c1
  · exact w_c2
  · exact w_c3
  · exact w_c4
  · exact w_c5
  · exact w_c6
  · exact w_c7
  · exact w_c8
  · exact w_c9
  · exact w_c10
  · exact w_c11
  · exact w_c12
  · exact w_c13
  · exact w_c14
  · exact w_c15
  · exact w_c16
  · exact w_c17
  · exact w_c18
  · exact w_c19
  · exact w_c20
  · exact w_c21
  · exact w_c22
  · exact w_c23
  · exact w_c24
  · exact w_c25
  · exact w_c26
  · exact w_c27
  · exact w_c28
  · exact w_c29
  · exact w_c30
  · exact w_c31
  · exact w_c32
  · exact w_c33
  · exact w_c34
  · exact w_c35
  · exact w_c36
  · exact w_c37
  · exact w_c38
  · exact w_c39
  · exact w_c40
  · exact w_c41
  · exact w_c42
  · exact w_c43
  · exact w_c44
  · exact w_c45
set_option maxRecDepth 65536 in
theorem w_t1 : (words1.take 24).all (fun c => isCode c || c.before args0 about1) = true := by decide +kernel
set_option maxRecDepth 65536 in
theorem w_t2 : ((words1.drop 24).take 24).all (fun c => isCode c || c.before args0 about1) = true := by decide +kernel
set_option maxRecDepth 65536 in
theorem w_t3 : (((words1.drop 24).drop 24).take 24).all (fun c => isCode c || c.before args0 about1) = true := by decide +kernel
set_option maxRecDepth 65536 in
theorem w_t4 : ((((words1.drop 24).drop 24).drop 24).take 24).all (fun c => isCode c || c.before args0 about1) = true := by decide +kernel
set_option maxRecDepth 65536 in
theorem w_t5 : (((((words1.drop 24).drop 24).drop 24).drop 24).take 24).all (fun c => isCode c || c.before args0 about1) = true := by decide +kernel
set_option maxRecDepth 65536 in
theorem w_t6 : ((((((words1.drop 24).drop 24).drop 24).drop 24).drop 24).take 24).all (fun c => isCode c || c.before args0 about1) = true := by decide +kernel
set_option maxRecDepth 65536 in
theorem w_t7 : (((((((words1.drop 24).drop 24).drop 24).drop 24).drop 24).drop 24).take 24).all (fun c => isCode c || c.before args0 about1) = true := by decide +kernel
set_option maxRecDepth 65536 in
theorem w_t8 : ((((((((words1.drop 24).drop 24).drop 24).drop 24).drop 24).drop 24).drop 24).take 24).all (fun c => isCode c || c.before args0 about1) = true := by decide +kernel
set_option maxRecDepth 65536 in
theorem w_t9 : (((((((((words1.drop 24).drop 24).drop 24).drop 24).drop 24).drop 24).drop 24).drop 24).take 24).all (fun c => isCode c || c.before args0 about1) = true := by decide +kernel
set_option maxRecDepth 65536 in
theorem w_t10 : (((((((((words1.drop 24).drop 24).drop 24).drop 24).drop 24).drop 24).drop 24).drop 24).drop 24).all (fun c => isCode c || c.before args0 about1) = true := by decide +kernel
theorem w_tables : (allAtoms (Jvm.Cond.code x code maxLocals ret :: tables_1)).before args0 about1 = true := by
  rw [allAtoms_all]
  show words1.all (fun c => c.before args0 about1) = true
  refine all_split ?_ w_codes
  rw [← List.take_append_drop 24 words1, List.all_append, w_t1, ← List.take_append_drop 24 (words1.drop 24), List.all_append, w_t2, ← List.take_append_drop 24 ((words1.drop 24).drop 24), List.all_append, w_t3, ← List.take_append_drop 24 (((words1.drop 24).drop 24).drop 24), List.all_append, w_t4, ← List.take_append_drop 24 ((((words1.drop 24).drop 24).drop 24).drop 24), List.all_append, w_t5, ← List.take_append_drop 24 (((((words1.drop 24).drop 24).drop 24).drop 24).drop 24), List.all_append, w_t6, ← List.take_append_drop 24 ((((((words1.drop 24).drop 24).drop 24).drop 24).drop 24).drop 24), List.all_append, w_t7, ← List.take_append_drop 24 (((((((words1.drop 24).drop 24).drop 24).drop 24).drop 24).drop 24).drop 24), List.all_append, w_t8, ← List.take_append_drop 24 ((((((((words1.drop 24).drop 24).drop 24).drop 24).drop 24).drop 24).drop 24).drop 24), List.all_append, w_t9, w_t10]
  rfl
set_option maxRecDepth 65536 in
theorem w_rest : rest_1_c.before args0 about1 = true := by decide +kernel
set_option maxRecDepth 65536 in
theorem w_case : (Jvm.Cond.and given_1 narrow_1).before args0 about1 = true := by decide +kernel
theorem w_applies : (headSpec (Jvm.Cond.code x code maxLocals ret :: tables_1) room_1).applies x e0.platform about1 = true :=
  (Spec.applies_iff w_frames).mpr ⟨w_running, w_runnable, w_alone, w_named, w_hears, w_ripe, w_room, w_tables⟩
theorem atStart : AtStart classFile x code maxLocals ret World_1 tables_1 room_1 Calls_1 rest_1 Pre_1 launch0 p0 e0 about1 theMethod args0 below0 :=
  ⟨lists_1, trivial, launch0.admits_env _ _ _, launch0.least_env, fairChoices_fair.cas, fairChoices_fair.clock, w_frames, w_args, w_heap, w_applies, trivial, w_rest, w_case⟩
end start1
theorem witness_1 : WitnessClaimed_1 := ⟨start1.p0, start1.e0, start1.about1, start1.theMethod, start1.args0, start1.below0, start1.atStart⟩
end Jvm.Pilot.@@N@@
