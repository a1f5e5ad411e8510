import JvmDerived
import JvmDerived.Pilot.@@N@@Statement
import JvmDerived.Pilot.@@N@@Code
set_option linter.unusedVariables false
set_option linter.unusedSimpArgs false
namespace Jvm.Own
open Jvm Jvm.ClassFile Sem Op Lib Jvm.Free Jvm.Stand Jvm.LawKit Jvm.RoadKit Bundle
/-- from this point the run comes to its end, and there En holds -/
def Go (p : Program) (l : Launch) (e : Env) (R : Room) (s : State) (m : MethodId) (args : Array Value) (below : List Frame) (meth : Method) (c : Code) (Z : State) (own : String) (n0 : Nat) (Bs : Vm → Heap → Prop) (En : Outcome → State → List Loc → Prop) (h : Heap) (cells slots pc : Nat) (Ls : Array Slot) (S : List Value) : Prop :=
  ∀ (vm0 : Vm) (T : State) (locs : List Loc), Z.Warmed39 vm0 → vm0.findClass own = some m.cls → Bs vm0 h → Stand p l e R (s.setVm vm0) m args below meth c T locs cells slots → Fr n0 locs → T.heap = h →
    ∃ (s₂ : State) (o : Outcome) (L : List Loc), Steps p.tables e below (T.setTop (mkF m pc Ls S)) s₂ ∧ s₂.status = .running ∧ Ended s₂ below o ∧ En o s₂ L
/-- what a walk knows of its method -/
def Cx (p : Program) (meth : Method) (c : Code) (bytes : ByteArray) (ml : Nat) (ret : Option FieldType) : Prop := p.tables.exec = Jvm.exec ∧ c.code = bytes ∧ c.maxLocals = ml ∧ meth.sig.returnType = ret ∧ meth.locks = false
section Rules
variable {p : Program} {l : Launch} {e : Env} {R : Room} {s : State} {m : MethodId} {args : Array Value} {below : List Frame} {meth : Method} {c : Code} {Z : State} {own : String} {n0 : Nat} {Bs : Vm → Heap → Prop} {En : Outcome → State → List Loc → Prop} {h : Heap} {cells slots pc pc' : Nat} {Ls : Array Slot} {S : List Value} {bytes : ByteArray} {ml : Nat} {ret : Option FieldType} {a0 : Array Value}
theorem Go.st {Ls' : Array Slot} {S' : List Value} (f : ∀ T : State, At T m c below → ∀ target, Steps p.tables e below (T.setTop (mkF m pc' Ls' S')) target → Steps p.tables e below (T.setTop (mkF m pc Ls S)) target) (K : Go p l e R s m args below meth c Z own n0 Bs En h cells slots pc' Ls' S') : Go p l e R s m args below meth c Z own n0 Bs En h cells slots pc Ls S := fun vm0 T locs q1 q2 q3 X q4 q5 => by
  obtain ⟨s₂, o, L, h1, h2⟩ := K vm0 T locs q1 q2 q3 X q4 q5
  exact ⟨s₂, o, L, f T X.here _ h1, h2⟩
theorem Go.bs {Bs' : Vm → Heap → Prop} (q : ∀ vm, Bs vm h → Bs' vm h) (K : Go p l e R s m args below meth c Z own n0 Bs' En h cells slots pc Ls S) : Go p l e R s m args below meth c Z own n0 Bs En h cells slots pc Ls S := fun vm0 T locs q1 q2 q3 X q4 q5 => K vm0 T locs q1 q2 (q vm0 q3) X q4 q5
theorem Go.iload (C : Cx p meth c bytes ml ret) {k : Nat} {v : Int32} (hd : decode bytes pc = .ok (.iload k, 2)) (hl : Ls[k]? = some (.val (.int v))) (hp : pc + 2 = pc') (K : Go p l e R s m args below meth c Z own n0 Bs En h cells slots pc' Ls (.int v :: S)) : Go p l e R s m args below meth c Z own n0 Bs En h cells slots pc Ls (S) := by
  subst hp; exact Go.st (fun T X t q => XS.iload X C.1 rfl (hb C.2.1 hd) hl q) K
theorem Go.iloadN (C : Cx p meth c bytes ml ret) {k : Fin 4} {v : Int32} (hd : decode bytes pc = .ok (.iload_n k, 1)) (hl : Ls[k.val]? = some (.val (.int v))) (hp : pc + 1 = pc') (K : Go p l e R s m args below meth c Z own n0 Bs En h cells slots pc' Ls (.int v :: S)) : Go p l e R s m args below meth c Z own n0 Bs En h cells slots pc Ls (S) := by
  subst hp; exact Go.st (fun T X t q => XS.iloadN X C.1 rfl (hb C.2.1 hd) hl q) K
theorem Go.istore (C : Cx p meth c bytes ml ret) {k : Nat} {x : Int32} {L' : Array Slot} (hd : decode bytes pc = .ok (.istore k, 2)) (hl : storeLocals Ls k (.int x) = some L') (hp : pc + 2 = pc') (K : Go p l e R s m args below meth c Z own n0 Bs En h cells slots pc' L' (S)) : Go p l e R s m args below meth c Z own n0 Bs En h cells slots pc Ls (.int x :: S) := by
  subst hp; exact Go.st (fun T X t q => XS.istore X C.1 rfl (hb C.2.1 hd) rfl hl q) K
theorem Go.istoreN (C : Cx p meth c bytes ml ret) {k : Fin 4} {x : Int32} {L' : Array Slot} (hd : decode bytes pc = .ok (.istore_n k, 1)) (hl : storeLocals Ls k.val (.int x) = some L') (hp : pc + 1 = pc') (K : Go p l e R s m args below meth c Z own n0 Bs En h cells slots pc' L' (S)) : Go p l e R s m args below meth c Z own n0 Bs En h cells slots pc Ls (.int x :: S) := by
  subst hp; exact Go.st (fun T X t q => XS.istoreN X C.1 rfl (hb C.2.1 hd) rfl hl q) K
theorem Go.lload (C : Cx p meth c bytes ml ret) {k : Nat} {v : Int64} (hd : decode bytes pc = .ok (.lload k, 2)) (hl : Ls[k]? = some (.val (.long v))) (hp : pc + 2 = pc') (K : Go p l e R s m args below meth c Z own n0 Bs En h cells slots pc' Ls (.long v :: S)) : Go p l e R s m args below meth c Z own n0 Bs En h cells slots pc Ls (S) := by
  subst hp; exact Go.st (fun T X t q => XS.lload X C.1 rfl (hb C.2.1 hd) hl q) K
theorem Go.lloadN (C : Cx p meth c bytes ml ret) {k : Fin 4} {v : Int64} (hd : decode bytes pc = .ok (.lload_n k, 1)) (hl : Ls[k.val]? = some (.val (.long v))) (hp : pc + 1 = pc') (K : Go p l e R s m args below meth c Z own n0 Bs En h cells slots pc' Ls (.long v :: S)) : Go p l e R s m args below meth c Z own n0 Bs En h cells slots pc Ls (S) := by
  subst hp; exact Go.st (fun T X t q => XS.lloadN X C.1 rfl (hb C.2.1 hd) hl q) K
theorem Go.lstore (C : Cx p meth c bytes ml ret) {k : Nat} {x : Int64} {L' : Array Slot} (hd : decode bytes pc = .ok (.lstore k, 2)) (hl : storeLocals Ls k (.long x) = some L') (hp : pc + 2 = pc') (K : Go p l e R s m args below meth c Z own n0 Bs En h cells slots pc' L' (S)) : Go p l e R s m args below meth c Z own n0 Bs En h cells slots pc Ls (.long x :: S) := by
  subst hp; exact Go.st (fun T X t q => XS.lstore X C.1 rfl (hb C.2.1 hd) rfl hl q) K
theorem Go.lstoreN (C : Cx p meth c bytes ml ret) {k : Fin 4} {x : Int64} {L' : Array Slot} (hd : decode bytes pc = .ok (.lstore_n k, 1)) (hl : storeLocals Ls k.val (.long x) = some L') (hp : pc + 1 = pc') (K : Go p l e R s m args below meth c Z own n0 Bs En h cells slots pc' L' (S)) : Go p l e R s m args below meth c Z own n0 Bs En h cells slots pc Ls (.long x :: S) := by
  subst hp; exact Go.st (fun T X t q => XS.lstoreN X C.1 rfl (hb C.2.1 hd) rfl hl q) K
theorem Go.dload (C : Cx p meth c bytes ml ret) {k : Nat} {v : UInt64} (hd : decode bytes pc = .ok (.dload k, 2)) (hl : Ls[k]? = some (.val (.double v))) (hp : pc + 2 = pc') (K : Go p l e R s m args below meth c Z own n0 Bs En h cells slots pc' Ls (.double v :: S)) : Go p l e R s m args below meth c Z own n0 Bs En h cells slots pc Ls (S) := by
  subst hp; exact Go.st (fun T X t q => XS.dload X C.1 rfl (hb C.2.1 hd) hl q) K
theorem Go.dloadN (C : Cx p meth c bytes ml ret) {k : Fin 4} {v : UInt64} (hd : decode bytes pc = .ok (.dload_n k, 1)) (hl : Ls[k.val]? = some (.val (.double v))) (hp : pc + 1 = pc') (K : Go p l e R s m args below meth c Z own n0 Bs En h cells slots pc' Ls (.double v :: S)) : Go p l e R s m args below meth c Z own n0 Bs En h cells slots pc Ls (S) := by
  subst hp; exact Go.st (fun T X t q => XS.dloadN X C.1 rfl (hb C.2.1 hd) hl q) K
theorem Go.dstore (C : Cx p meth c bytes ml ret) {k : Nat} {x : UInt64} {L' : Array Slot} (hd : decode bytes pc = .ok (.dstore k, 2)) (hl : storeLocals Ls k (.double x) = some L') (hp : pc + 2 = pc') (K : Go p l e R s m args below meth c Z own n0 Bs En h cells slots pc' L' (S)) : Go p l e R s m args below meth c Z own n0 Bs En h cells slots pc Ls (.double x :: S) := by
  subst hp; exact Go.st (fun T X t q => XS.dstore X C.1 rfl (hb C.2.1 hd) rfl hl q) K
theorem Go.dstoreN (C : Cx p meth c bytes ml ret) {k : Fin 4} {x : UInt64} {L' : Array Slot} (hd : decode bytes pc = .ok (.dstore_n k, 1)) (hl : storeLocals Ls k.val (.double x) = some L') (hp : pc + 1 = pc') (K : Go p l e R s m args below meth c Z own n0 Bs En h cells slots pc' L' (S)) : Go p l e R s m args below meth c Z own n0 Bs En h cells slots pc Ls (.double x :: S) := by
  subst hp; exact Go.st (fun T X t q => XS.dstoreN X C.1 rfl (hb C.2.1 hd) rfl hl q) K
theorem Go.aload (C : Cx p meth c bytes ml ret) {k : Nat} {v : Value} (hd : decode bytes pc = .ok (.aload k, 2)) (hl : Ls[k]? = some (.val v)) (hv : v.isRef = true) (hp : pc + 2 = pc') (K : Go p l e R s m args below meth c Z own n0 Bs En h cells slots pc' Ls (v :: S)) : Go p l e R s m args below meth c Z own n0 Bs En h cells slots pc Ls (S) := by
  subst hp; exact Go.st (fun T X t q => XS.aload X C.1 rfl (hb C.2.1 hd) hl hv q) K
theorem Go.aloadN (C : Cx p meth c bytes ml ret) {k : Fin 4} {v : Value} (hd : decode bytes pc = .ok (.aload_n k, 1)) (hl : Ls[k.val]? = some (.val v)) (hv : v.isRef = true) (hp : pc + 1 = pc') (K : Go p l e R s m args below meth c Z own n0 Bs En h cells slots pc' Ls (v :: S)) : Go p l e R s m args below meth c Z own n0 Bs En h cells slots pc Ls (S) := by
  subst hp; exact Go.st (fun T X t q => XS.aloadN X C.1 rfl (hb C.2.1 hd) hl hv q) K
theorem Go.astore (C : Cx p meth c bytes ml ret) {k : Nat} {x : Value} {L' : Array Slot} (hd : decode bytes pc = .ok (.astore k, 2)) (hv : x.isRef = true) (hl : storeLocals Ls k x = some L') (hp : pc + 2 = pc') (K : Go p l e R s m args below meth c Z own n0 Bs En h cells slots pc' L' (S)) : Go p l e R s m args below meth c Z own n0 Bs En h cells slots pc Ls (x :: S) := by
  subst hp; exact Go.st (fun T X t q => XS.astore X C.1 rfl (hb C.2.1 hd) rfl hv hl q) K
theorem Go.astoreN (C : Cx p meth c bytes ml ret) {k : Fin 4} {x : Value} {L' : Array Slot} (hd : decode bytes pc = .ok (.astore_n k, 1)) (hv : x.isRef = true) (hl : storeLocals Ls k.val x = some L') (hp : pc + 1 = pc') (K : Go p l e R s m args below meth c Z own n0 Bs En h cells slots pc' L' (S)) : Go p l e R s m args below meth c Z own n0 Bs En h cells slots pc Ls (x :: S) := by
  subst hp; exact Go.st (fun T X t q => XS.astoreN X C.1 rfl (hb C.2.1 hd) rfl hv hl q) K
theorem Go.iconst (C : Cx p meth c bytes ml ret) {i : Int} {v : Int32} (hd : decode bytes pc = .ok (.iconst i, 1)) (hv : Int32.ofInt i = v) (hp : pc + 1 = pc') (K : Go p l e R s m args below meth c Z own n0 Bs En h cells slots pc' Ls (.int v :: S)) : Go p l e R s m args below meth c Z own n0 Bs En h cells slots pc Ls (S) := by
  subst hp; exact Go.st (fun T X t q => by subst hv; exact XS.iconst X C.1 rfl (hb C.2.1 hd)  q) K
theorem Go.lconst (C : Cx p meth c bytes ml ret) {k : Fin 2} {v : Int64} (hd : decode bytes pc = .ok (.lconst k, 1)) (hv : Int64.ofNat k = v) (hp : pc + 1 = pc') (K : Go p l e R s m args below meth c Z own n0 Bs En h cells slots pc' Ls (.long v :: S)) : Go p l e R s m args below meth c Z own n0 Bs En h cells slots pc Ls (S) := by
  subst hp; exact Go.st (fun T X t q => by subst hv; exact XS.lconst X C.1 rfl (hb C.2.1 hd)  q) K
theorem Go.dconst0 (C : Cx p meth c bytes ml ret) {v : UInt64} (hd : decode bytes pc = .ok (.dconst 0, 1)) (hv : FP.dconst0 = v) (hp : pc + 1 = pc') (K : Go p l e R s m args below meth c Z own n0 Bs En h cells slots pc' Ls (.double v :: S)) : Go p l e R s m args below meth c Z own n0 Bs En h cells slots pc Ls (S) := by
  subst hp; exact Go.st (fun T X t q => XS.dconst0 X C.1 rfl (hb C.2.1 hd) hv q) K
theorem Go.dconst1 (C : Cx p meth c bytes ml ret) {v : UInt64} (hd : decode bytes pc = .ok (.dconst 1, 1)) (hv : FP.dconst1 = v) (hp : pc + 1 = pc') (K : Go p l e R s m args below meth c Z own n0 Bs En h cells slots pc' Ls (.double v :: S)) : Go p l e R s m args below meth c Z own n0 Bs En h cells slots pc Ls (S) := by
  subst hp; exact Go.st (fun T X t q => XS.dconst1 X C.1 rfl (hb C.2.1 hd) hv q) K
theorem Go.bipush (C : Cx p meth c bytes ml ret) {i : Int} {v : Int32} (hd : decode bytes pc = .ok (.bipush i, 2)) (hv : (Int8.ofInt i).toInt32 = v) (hp : pc + 2 = pc') (K : Go p l e R s m args below meth c Z own n0 Bs En h cells slots pc' Ls (.int v :: S)) : Go p l e R s m args below meth c Z own n0 Bs En h cells slots pc Ls (S) := by
  subst hp; exact Go.st (fun T X t q => by subst hv; exact XS.bipush X C.1 rfl (hb C.2.1 hd)  q) K
theorem Go.sipush (C : Cx p meth c bytes ml ret) {i : Int} {v : Int32} (hd : decode bytes pc = .ok (.sipush i, 3)) (hv : (Int16.ofInt i).toInt32 = v) (hp : pc + 3 = pc') (K : Go p l e R s m args below meth c Z own n0 Bs En h cells slots pc' Ls (.int v :: S)) : Go p l e R s m args below meth c Z own n0 Bs En h cells slots pc Ls (S) := by
  subst hp; exact Go.st (fun T X t q => by subst hv; exact XS.sipush X C.1 rfl (hb C.2.1 hd)  q) K
theorem Go.aconstNull (C : Cx p meth c bytes ml ret)  (hd : decode bytes pc = .ok (.aconst_null, 1))  (hp : pc + 1 = pc') (K : Go p l e R s m args below meth c Z own n0 Bs En h cells slots pc' Ls (.null :: S)) : Go p l e R s m args below meth c Z own n0 Bs En h cells slots pc Ls (S) := by
  subst hp; exact Go.st (fun T X t q => XS.aconstNull X C.1 rfl (hb C.2.1 hd)  q) K
theorem Go.dup (C : Cx p meth c bytes ml ret) {x : Value} (hd : decode bytes pc = .ok (.dup, 1)) (hc : x.category = 1) (hp : pc + 1 = pc') (K : Go p l e R s m args below meth c Z own n0 Bs En h cells slots pc' Ls (x :: x :: S)) : Go p l e R s m args below meth c Z own n0 Bs En h cells slots pc Ls (x :: S) := by
  subst hp; exact Go.st (fun T X t q => XS.dup X C.1 rfl (hb C.2.1 hd) rfl hc q) K
theorem Go.dupX1 (C : Cx p meth c bytes ml ret) {x y : Value} (hd : decode bytes pc = .ok (.dup_x1, 1)) (hc : x.category = 1) (hc2 : y.category = 1) (hp : pc + 1 = pc') (K : Go p l e R s m args below meth c Z own n0 Bs En h cells slots pc' Ls (x :: y :: x :: S)) : Go p l e R s m args below meth c Z own n0 Bs En h cells slots pc Ls (x :: y :: S) := by
  subst hp; exact Go.st (fun T X t q => XS.dupX1 X C.1 rfl (hb C.2.1 hd) rfl hc hc2 q) K
theorem Go.pop (C : Cx p meth c bytes ml ret) {x : Value} (hd : decode bytes pc = .ok (.pop, 1)) (hc : x.category = 1) (hp : pc + 1 = pc') (K : Go p l e R s m args below meth c Z own n0 Bs En h cells slots pc' Ls (S)) : Go p l e R s m args below meth c Z own n0 Bs En h cells slots pc Ls (x :: S) := by
  subst hp; exact Go.st (fun T X t q => XS.pop X C.1 rfl (hb C.2.1 hd) rfl hc q) K
theorem Go.iadd (C : Cx p meth c bytes ml ret) {x y : Int32} (hd : decode bytes pc = .ok (.iadd, 1))  (hp : pc + 1 = pc') (K : Go p l e R s m args below meth c Z own n0 Bs En h cells slots pc' Ls (.int (x + y) :: S)) : Go p l e R s m args below meth c Z own n0 Bs En h cells slots pc Ls (.int y :: .int x :: S) := by
  subst hp; exact Go.st (fun T X t q => XS.iadd X C.1 rfl (hb C.2.1 hd) rfl q) K
theorem Go.isub (C : Cx p meth c bytes ml ret) {x y : Int32} (hd : decode bytes pc = .ok (.isub, 1))  (hp : pc + 1 = pc') (K : Go p l e R s m args below meth c Z own n0 Bs En h cells slots pc' Ls (.int (x - y) :: S)) : Go p l e R s m args below meth c Z own n0 Bs En h cells slots pc Ls (.int y :: .int x :: S) := by
  subst hp; exact Go.st (fun T X t q => XS.isub X C.1 rfl (hb C.2.1 hd) rfl q) K
theorem Go.imul (C : Cx p meth c bytes ml ret) {x y : Int32} (hd : decode bytes pc = .ok (.imul, 1))  (hp : pc + 1 = pc') (K : Go p l e R s m args below meth c Z own n0 Bs En h cells slots pc' Ls (.int (x * y) :: S)) : Go p l e R s m args below meth c Z own n0 Bs En h cells slots pc Ls (.int y :: .int x :: S) := by
  subst hp; exact Go.st (fun T X t q => XS.imul X C.1 rfl (hb C.2.1 hd) rfl q) K
theorem Go.iand (C : Cx p meth c bytes ml ret) {x y : Int32} (hd : decode bytes pc = .ok (.iand, 1))  (hp : pc + 1 = pc') (K : Go p l e R s m args below meth c Z own n0 Bs En h cells slots pc' Ls (.int (x &&& y) :: S)) : Go p l e R s m args below meth c Z own n0 Bs En h cells slots pc Ls (.int y :: .int x :: S) := by
  subst hp; exact Go.st (fun T X t q => XS.iand X C.1 rfl (hb C.2.1 hd) rfl q) K
theorem Go.ior (C : Cx p meth c bytes ml ret) {x y : Int32} (hd : decode bytes pc = .ok (.ior, 1))  (hp : pc + 1 = pc') (K : Go p l e R s m args below meth c Z own n0 Bs En h cells slots pc' Ls (.int (x ||| y) :: S)) : Go p l e R s m args below meth c Z own n0 Bs En h cells slots pc Ls (.int y :: .int x :: S) := by
  subst hp; exact Go.st (fun T X t q => XS.ior X C.1 rfl (hb C.2.1 hd) rfl q) K
theorem Go.ixor (C : Cx p meth c bytes ml ret) {x y : Int32} (hd : decode bytes pc = .ok (.ixor, 1))  (hp : pc + 1 = pc') (K : Go p l e R s m args below meth c Z own n0 Bs En h cells slots pc' Ls (.int (x ^^^ y) :: S)) : Go p l e R s m args below meth c Z own n0 Bs En h cells slots pc Ls (.int y :: .int x :: S) := by
  subst hp; exact Go.st (fun T X t q => XS.ixor X C.1 rfl (hb C.2.1 hd) rfl q) K
theorem Go.ishl (C : Cx p meth c bytes ml ret) {x y : Int32} (hd : decode bytes pc = .ok (.ishl, 1))  (hp : pc + 1 = pc') (K : Go p l e R s m args below meth c Z own n0 Bs En h cells slots pc' Ls (.int (x <<< (y &&& 31)) :: S)) : Go p l e R s m args below meth c Z own n0 Bs En h cells slots pc Ls (.int y :: .int x :: S) := by
  subst hp; exact Go.st (fun T X t q => XS.ishl X C.1 rfl (hb C.2.1 hd) rfl q) K
theorem Go.ishr (C : Cx p meth c bytes ml ret) {x y : Int32} (hd : decode bytes pc = .ok (.ishr, 1))  (hp : pc + 1 = pc') (K : Go p l e R s m args below meth c Z own n0 Bs En h cells slots pc' Ls (.int (x >>> (y &&& 31)) :: S)) : Go p l e R s m args below meth c Z own n0 Bs En h cells slots pc Ls (.int y :: .int x :: S) := by
  subst hp; exact Go.st (fun T X t q => XS.ishr X C.1 rfl (hb C.2.1 hd) rfl q) K
theorem Go.iushr (C : Cx p meth c bytes ml ret) {x y : Int32} (hd : decode bytes pc = .ok (.iushr, 1))  (hp : pc + 1 = pc') (K : Go p l e R s m args below meth c Z own n0 Bs En h cells slots pc' Ls (.int ((x.toUInt32 >>> (y &&& 31).toUInt32).toInt32) :: S)) : Go p l e R s m args below meth c Z own n0 Bs En h cells slots pc Ls (.int y :: .int x :: S) := by
  subst hp; exact Go.st (fun T X t q => XS.iushr X C.1 rfl (hb C.2.1 hd) rfl q) K
theorem Go.idiv (C : Cx p meth c bytes ml ret) {x y : Int32} (hd : decode bytes pc = .ok (.idiv, 1)) (hy : y ≠ 0) (hp : pc + 1 = pc') (K : Go p l e R s m args below meth c Z own n0 Bs En h cells slots pc' Ls (.int (x / y) :: S)) : Go p l e R s m args below meth c Z own n0 Bs En h cells slots pc Ls (.int y :: .int x :: S) := by
  subst hp; exact Go.st (fun T X t q => XS.idiv X C.1 rfl (hb C.2.1 hd) rfl hy q) K
theorem Go.irem (C : Cx p meth c bytes ml ret) {x y : Int32} (hd : decode bytes pc = .ok (.irem, 1)) (hy : y ≠ 0) (hp : pc + 1 = pc') (K : Go p l e R s m args below meth c Z own n0 Bs En h cells slots pc' Ls (.int (x % y) :: S)) : Go p l e R s m args below meth c Z own n0 Bs En h cells slots pc Ls (.int y :: .int x :: S) := by
  subst hp; exact Go.st (fun T X t q => XS.irem X C.1 rfl (hb C.2.1 hd) rfl hy (by rw [irem_eq_mod]; exact q)) K
theorem Go.ladd (C : Cx p meth c bytes ml ret) {x y : Int64} (hd : decode bytes pc = .ok (.ladd, 1))  (hp : pc + 1 = pc') (K : Go p l e R s m args below meth c Z own n0 Bs En h cells slots pc' Ls (.long (x + y) :: S)) : Go p l e R s m args below meth c Z own n0 Bs En h cells slots pc Ls (.long y :: .long x :: S) := by
  subst hp; exact Go.st (fun T X t q => XS.ladd X C.1 rfl (hb C.2.1 hd) rfl q) K
theorem Go.lsub (C : Cx p meth c bytes ml ret) {x y : Int64} (hd : decode bytes pc = .ok (.lsub, 1))  (hp : pc + 1 = pc') (K : Go p l e R s m args below meth c Z own n0 Bs En h cells slots pc' Ls (.long (x - y) :: S)) : Go p l e R s m args below meth c Z own n0 Bs En h cells slots pc Ls (.long y :: .long x :: S) := by
  subst hp; exact Go.st (fun T X t q => XS.lsub X C.1 rfl (hb C.2.1 hd) rfl q) K
theorem Go.lmul (C : Cx p meth c bytes ml ret) {x y : Int64} (hd : decode bytes pc = .ok (.lmul, 1))  (hp : pc + 1 = pc') (K : Go p l e R s m args below meth c Z own n0 Bs En h cells slots pc' Ls (.long (x * y) :: S)) : Go p l e R s m args below meth c Z own n0 Bs En h cells slots pc Ls (.long y :: .long x :: S) := by
  subst hp; exact Go.st (fun T X t q => XS.lmul X C.1 rfl (hb C.2.1 hd) rfl q) K
theorem Go.land (C : Cx p meth c bytes ml ret) {x y : Int64} (hd : decode bytes pc = .ok (.land, 1))  (hp : pc + 1 = pc') (K : Go p l e R s m args below meth c Z own n0 Bs En h cells slots pc' Ls (.long (x &&& y) :: S)) : Go p l e R s m args below meth c Z own n0 Bs En h cells slots pc Ls (.long y :: .long x :: S) := by
  subst hp; exact Go.st (fun T X t q => XS.land X C.1 rfl (hb C.2.1 hd) rfl q) K
theorem Go.lor (C : Cx p meth c bytes ml ret) {x y : Int64} (hd : decode bytes pc = .ok (.lor, 1))  (hp : pc + 1 = pc') (K : Go p l e R s m args below meth c Z own n0 Bs En h cells slots pc' Ls (.long (x ||| y) :: S)) : Go p l e R s m args below meth c Z own n0 Bs En h cells slots pc Ls (.long y :: .long x :: S) := by
  subst hp; exact Go.st (fun T X t q => XS.lor X C.1 rfl (hb C.2.1 hd) rfl q) K
theorem Go.lxor (C : Cx p meth c bytes ml ret) {x y : Int64} (hd : decode bytes pc = .ok (.lxor, 1))  (hp : pc + 1 = pc') (K : Go p l e R s m args below meth c Z own n0 Bs En h cells slots pc' Ls (.long (x ^^^ y) :: S)) : Go p l e R s m args below meth c Z own n0 Bs En h cells slots pc Ls (.long y :: .long x :: S) := by
  subst hp; exact Go.st (fun T X t q => XS.lxor X C.1 rfl (hb C.2.1 hd) rfl q) K
theorem Go.lshl (C : Cx p meth c bytes ml ret) {x : Int64} {y : Int32} (hd : decode bytes pc = .ok (.lshl, 1))  (hp : pc + 1 = pc') (K : Go p l e R s m args below meth c Z own n0 Bs En h cells slots pc' Ls (.long (x <<< (y &&& 0x3f).toInt64) :: S)) : Go p l e R s m args below meth c Z own n0 Bs En h cells slots pc Ls (.int y :: .long x :: S) := by
  subst hp; exact Go.st (fun T X t q => XS.lshl X C.1 rfl (hb C.2.1 hd) rfl q) K
theorem Go.lshr (C : Cx p meth c bytes ml ret) {x : Int64} {y : Int32} (hd : decode bytes pc = .ok (.lshr, 1))  (hp : pc + 1 = pc') (K : Go p l e R s m args below meth c Z own n0 Bs En h cells slots pc' Ls (.long (x >>> (y &&& 0x3f).toInt64) :: S)) : Go p l e R s m args below meth c Z own n0 Bs En h cells slots pc Ls (.int y :: .long x :: S) := by
  subst hp; exact Go.st (fun T X t q => XS.lshr X C.1 rfl (hb C.2.1 hd) rfl q) K
theorem Go.lushr (C : Cx p meth c bytes ml ret) {x : Int64} {y : Int32} (hd : decode bytes pc = .ok (.lushr, 1))  (hp : pc + 1 = pc') (K : Go p l e R s m args below meth c Z own n0 Bs En h cells slots pc' Ls (.long ((x.toUInt64 >>> (y &&& 0x3f).toInt64.toUInt64).toInt64) :: S)) : Go p l e R s m args below meth c Z own n0 Bs En h cells slots pc Ls (.int y :: .long x :: S) := by
  subst hp; exact Go.st (fun T X t q => XS.lushr X C.1 rfl (hb C.2.1 hd) rfl q) K
theorem Go.ineg (C : Cx p meth c bytes ml ret) {v : Int32} (hd : decode bytes pc = .ok (.ineg, 1))  (hp : pc + 1 = pc') (K : Go p l e R s m args below meth c Z own n0 Bs En h cells slots pc' Ls (.int (-v) :: S)) : Go p l e R s m args below meth c Z own n0 Bs En h cells slots pc Ls (.int v :: S) := by
  subst hp; exact Go.st (fun T X t q => XS.ineg X C.1 rfl (hb C.2.1 hd) rfl q) K
theorem Go.i2b (C : Cx p meth c bytes ml ret) {v : Int32} (hd : decode bytes pc = .ok (.i2b, 1))  (hp : pc + 1 = pc') (K : Go p l e R s m args below meth c Z own n0 Bs En h cells slots pc' Ls (.int (v.toInt8.toInt32) :: S)) : Go p l e R s m args below meth c Z own n0 Bs En h cells slots pc Ls (.int v :: S) := by
  subst hp; exact Go.st (fun T X t q => XS.i2b X C.1 rfl (hb C.2.1 hd) rfl q) K
theorem Go.i2c (C : Cx p meth c bytes ml ret) {v : Int32} (hd : decode bytes pc = .ok (.i2c, 1))  (hp : pc + 1 = pc') (K : Go p l e R s m args below meth c Z own n0 Bs En h cells slots pc' Ls (.int (v.toUInt32.toUInt16.toUInt32.toInt32) :: S)) : Go p l e R s m args below meth c Z own n0 Bs En h cells slots pc Ls (.int v :: S) := by
  subst hp; exact Go.st (fun T X t q => XS.i2c X C.1 rfl (hb C.2.1 hd) rfl q) K
theorem Go.i2s (C : Cx p meth c bytes ml ret) {v : Int32} (hd : decode bytes pc = .ok (.i2s, 1))  (hp : pc + 1 = pc') (K : Go p l e R s m args below meth c Z own n0 Bs En h cells slots pc' Ls (.int (v.toInt16.toInt32) :: S)) : Go p l e R s m args below meth c Z own n0 Bs En h cells slots pc Ls (.int v :: S) := by
  subst hp; exact Go.st (fun T X t q => XS.i2s X C.1 rfl (hb C.2.1 hd) rfl q) K
theorem Go.i2l (C : Cx p meth c bytes ml ret) {v : Int32} (hd : decode bytes pc = .ok (.i2l, 1))  (hp : pc + 1 = pc') (K : Go p l e R s m args below meth c Z own n0 Bs En h cells slots pc' Ls (.long (v.toInt64) :: S)) : Go p l e R s m args below meth c Z own n0 Bs En h cells slots pc Ls (.int v :: S) := by
  subst hp; exact Go.st (fun T X t q => XS.i2l X C.1 rfl (hb C.2.1 hd) rfl q) K
theorem Go.l2i (C : Cx p meth c bytes ml ret) {v : Int64} (hd : decode bytes pc = .ok (.l2i, 1))  (hp : pc + 1 = pc') (K : Go p l e R s m args below meth c Z own n0 Bs En h cells slots pc' Ls (.int (v.toInt32) :: S)) : Go p l e R s m args below meth c Z own n0 Bs En h cells slots pc Ls (.long v :: S) := by
  subst hp; exact Go.st (fun T X t q => XS.l2i X C.1 rfl (hb C.2.1 hd) rfl q) K
theorem Go.lneg (C : Cx p meth c bytes ml ret) {v : Int64} (hd : decode bytes pc = .ok (.lneg, 1))  (hp : pc + 1 = pc') (K : Go p l e R s m args below meth c Z own n0 Bs En h cells slots pc' Ls (.long (-v) :: S)) : Go p l e R s m args below meth c Z own n0 Bs En h cells slots pc Ls (.long v :: S) := by
  subst hp; exact Go.st (fun T X t q => XS.lneg X C.1 rfl (hb C.2.1 hd) rfl q) K
theorem Go.lcmp (C : Cx p meth c bytes ml ret) {x y : Int64} (hd : decode bytes pc = .ok (.lcmp, 1))  (hp : pc + 1 = pc') (K : Go p l e R s m args below meth c Z own n0 Bs En h cells slots pc' Ls (.int (lcmpW x y) :: S)) : Go p l e R s m args below meth c Z own n0 Bs En h cells slots pc Ls (.long y :: .long x :: S) := by
  subst hp; exact Go.st (fun T X t q => XS.lcmp X C.1 rfl (hb C.2.1 hd) rfl q) K
theorem Go.i2d (C : Cx p meth c bytes ml ret) {x : Int32} {v : UInt64} (hd : decode bytes pc = .ok (.i2d, 1)) (hv : FP.i2d x = v) (hp : pc + 1 = pc') (K : Go p l e R s m args below meth c Z own n0 Bs En h cells slots pc' Ls (.double v :: S)) : Go p l e R s m args below meth c Z own n0 Bs En h cells slots pc Ls (.int x :: S) := by
  subst hp; exact Go.st (fun T X t q => XS.i2dS X C.1 rfl (hb C.2.1 hd) rfl hv q) K
theorem Go.l2d (C : Cx p meth c bytes ml ret) {x : Int64} {v : UInt64} (hd : decode bytes pc = .ok (.l2d, 1)) (hv : FP.l2d x = v) (hp : pc + 1 = pc') (K : Go p l e R s m args below meth c Z own n0 Bs En h cells slots pc' Ls (.double v :: S)) : Go p l e R s m args below meth c Z own n0 Bs En h cells slots pc Ls (.long x :: S) := by
  subst hp; exact Go.st (fun T X t q => XS.l2dS X C.1 rfl (hb C.2.1 hd) rfl hv q) K
theorem Go.dcmp (C : Cx p meth c bytes ml ret) {o : CmpOp} {x y : UInt64} {v : Int32} (hd : decode bytes pc = .ok (.dcmp o, 1)) (hv : cmpValue (FP.dcmp x y) o = v) (hp : pc + 1 = pc') (K : Go p l e R s m args below meth c Z own n0 Bs En h cells slots pc' Ls (.int v :: S)) : Go p l e R s m args below meth c Z own n0 Bs En h cells slots pc Ls (.double y :: .double x :: S) := by
  subst hp; exact Go.st (fun T X t q => XS.dcmpS X C.1 rfl (hb C.2.1 hd) rfl hv q) K
theorem Go.iinc (C : Cx p meth c bytes ml ret) {k : Nat} {cst : Int} {x y : Int32} {L' : Array Slot} (hd : decode bytes pc = .ok (.iinc k cst, 3)) (hl : Ls[k]? = some (.val (.int x))) (hy : x + Int32.ofInt cst = y) (hl' : storeLocals Ls k (.int y) = some L') (hp : pc + 3 = pc') (K : Go p l e R s m args below meth c Z own n0 Bs En h cells slots pc' L' (S)) : Go p l e R s m args below meth c Z own n0 Bs En h cells slots pc Ls (S) := by
  subst hp; exact Go.st (fun T X t q => by subst hy; exact XS.iinc X C.1 rfl (hb C.2.1 hd) hl hl' q) K
theorem Go.goto (C : Cx p meth c bytes ml ret) {o : Int} (hd : decode bytes pc = .ok (.goto o, 3)) (ho : 0 ≤ (pc : Int) + o) (hp : ((pc : Int) + o).toNat = pc') (K : Go p l e R s m args below meth c Z own n0 Bs En h cells slots pc' Ls S) : Go p l e R s m args below meth c Z own n0 Bs En h cells slots pc Ls S := Go.st (fun T X t q => XS.goto X C.1 rfl rfl (hb C.2.1 hd) ho hp q) K
theorem Go.icmp_eq_t (C : Cx p meth c bytes ml ret) {x y : Int32} {o : Int} (hd : decode bytes pc = .ok (.if_icmp .eq o, 3)) (H : x = y) (ho : 0 ≤ (pc : Int) + o) (hp : ((pc : Int) + o).toNat = pc') (K : Go p l e R s m args below meth c Z own n0 Bs En h cells slots pc' Ls S) : Go p l e R s m args below meth c Z own n0 Bs En h cells slots pc Ls (.int y :: .int x :: S) := Go.st (fun T X t q => XS.icmpYes X C.1 rfl rfl (hb C.2.1 hd) rfl ((teq H).1) ho hp q) K
theorem Go.icmp_eq_f (C : Cx p meth c bytes ml ret) {x y : Int32} {o : Int} (hd : decode bytes pc = .ok (.if_icmp .eq o, 3)) (H : ¬ x = y) (hp : pc + 3 = pc') (K : Go p l e R s m args below meth c Z own n0 Bs En h cells slots pc' Ls S) : Go p l e R s m args below meth c Z own n0 Bs En h cells slots pc Ls (.int y :: .int x :: S) := by
  subst hp; exact Go.st (fun T X t q => XS.icmpNo X C.1 rfl (hb C.2.1 hd) rfl ((feq H).1) q) K
theorem Go.icmp_eq (C : Cx p meth c bytes ml ret) {pc1 pc2 : Nat} {x y : Int32} {o : Int} (hd : decode bytes pc = .ok (.if_icmp .eq o, 3)) (ho : 0 ≤ (pc : Int) + o) (hp : ((pc : Int) + o).toNat = pc1) (hp2 : pc + 3 = pc2) (K1 : x = y → Go p l e R s m args below meth c Z own n0 Bs En h cells slots pc1 Ls S) (K2 : ¬ x = y → Go p l e R s m args below meth c Z own n0 Bs En h cells slots pc2 Ls S) : Go p l e R s m args below meth c Z own n0 Bs En h cells slots pc Ls (.int y :: .int x :: S) := by
  by_cases H : x = y
  · exact Go.icmp_eq_t C hd H ho hp (K1 H)
  · exact Go.icmp_eq_f C hd H hp2 (K2 H)
theorem Go.if_eq_t (C : Cx p meth c bytes ml ret) {x : Int32} {o : Int} (hd : decode bytes pc = .ok (.ifCond .eq o, 3)) (H : x = 0) (ho : 0 ≤ (pc : Int) + o) (hp : ((pc : Int) + o).toNat = pc') (K : Go p l e R s m args below meth c Z own n0 Bs En h cells slots pc' Ls S) : Go p l e R s m args below meth c Z own n0 Bs En h cells slots pc Ls (.int x :: S) := Go.st (fun T X t q => XS.ifYes X C.1 rfl rfl (hb C.2.1 hd) rfl ((if0 _ _).trans ((teq H).1)) ho hp q) K
theorem Go.if_eq_f (C : Cx p meth c bytes ml ret) {x : Int32} {o : Int} (hd : decode bytes pc = .ok (.ifCond .eq o, 3)) (H : ¬ x = 0) (hp : pc + 3 = pc') (K : Go p l e R s m args below meth c Z own n0 Bs En h cells slots pc' Ls S) : Go p l e R s m args below meth c Z own n0 Bs En h cells slots pc Ls (.int x :: S) := by
  subst hp; exact Go.st (fun T X t q => XS.ifNo X C.1 rfl (hb C.2.1 hd) rfl ((if0 _ _).trans ((feq H).1)) q) K
theorem Go.if_eq (C : Cx p meth c bytes ml ret) {pc1 pc2 : Nat} {x : Int32} {o : Int} (hd : decode bytes pc = .ok (.ifCond .eq o, 3)) (ho : 0 ≤ (pc : Int) + o) (hp : ((pc : Int) + o).toNat = pc1) (hp2 : pc + 3 = pc2) (K1 : x = 0 → Go p l e R s m args below meth c Z own n0 Bs En h cells slots pc1 Ls S) (K2 : ¬ x = 0 → Go p l e R s m args below meth c Z own n0 Bs En h cells slots pc2 Ls S) : Go p l e R s m args below meth c Z own n0 Bs En h cells slots pc Ls (.int x :: S) := by
  by_cases H : x = 0
  · exact Go.if_eq_t C hd H ho hp (K1 H)
  · exact Go.if_eq_f C hd H hp2 (K2 H)
theorem Go.icmp_ne_t (C : Cx p meth c bytes ml ret) {x y : Int32} {o : Int} (hd : decode bytes pc = .ok (.if_icmp .ne o, 3)) (H : ¬ x = y) (ho : 0 ≤ (pc : Int) + o) (hp : ((pc : Int) + o).toNat = pc') (K : Go p l e R s m args below meth c Z own n0 Bs En h cells slots pc' Ls S) : Go p l e R s m args below meth c Z own n0 Bs En h cells slots pc Ls (.int y :: .int x :: S) := Go.st (fun T X t q => XS.icmpYes X C.1 rfl rfl (hb C.2.1 hd) rfl ((feq H).2) ho hp q) K
theorem Go.icmp_ne_f (C : Cx p meth c bytes ml ret) {x y : Int32} {o : Int} (hd : decode bytes pc = .ok (.if_icmp .ne o, 3)) (H : x = y) (hp : pc + 3 = pc') (K : Go p l e R s m args below meth c Z own n0 Bs En h cells slots pc' Ls S) : Go p l e R s m args below meth c Z own n0 Bs En h cells slots pc Ls (.int y :: .int x :: S) := by
  subst hp; exact Go.st (fun T X t q => XS.icmpNo X C.1 rfl (hb C.2.1 hd) rfl ((teq H).2) q) K
theorem Go.icmp_ne (C : Cx p meth c bytes ml ret) {pc1 pc2 : Nat} {x y : Int32} {o : Int} (hd : decode bytes pc = .ok (.if_icmp .ne o, 3)) (ho : 0 ≤ (pc : Int) + o) (hp : ((pc : Int) + o).toNat = pc1) (hp2 : pc + 3 = pc2) (K1 : ¬ x = y → Go p l e R s m args below meth c Z own n0 Bs En h cells slots pc1 Ls S) (K2 : x = y → Go p l e R s m args below meth c Z own n0 Bs En h cells slots pc2 Ls S) : Go p l e R s m args below meth c Z own n0 Bs En h cells slots pc Ls (.int y :: .int x :: S) := by
  by_cases H : x = y
  · exact Go.icmp_ne_f C hd H hp2 (K2 H)
  · exact Go.icmp_ne_t C hd H ho hp (K1 H)
theorem Go.if_ne_t (C : Cx p meth c bytes ml ret) {x : Int32} {o : Int} (hd : decode bytes pc = .ok (.ifCond .ne o, 3)) (H : ¬ x = 0) (ho : 0 ≤ (pc : Int) + o) (hp : ((pc : Int) + o).toNat = pc') (K : Go p l e R s m args below meth c Z own n0 Bs En h cells slots pc' Ls S) : Go p l e R s m args below meth c Z own n0 Bs En h cells slots pc Ls (.int x :: S) := Go.st (fun T X t q => XS.ifYes X C.1 rfl rfl (hb C.2.1 hd) rfl ((if0 _ _).trans ((feq H).2)) ho hp q) K
theorem Go.if_ne_f (C : Cx p meth c bytes ml ret) {x : Int32} {o : Int} (hd : decode bytes pc = .ok (.ifCond .ne o, 3)) (H : x = 0) (hp : pc + 3 = pc') (K : Go p l e R s m args below meth c Z own n0 Bs En h cells slots pc' Ls S) : Go p l e R s m args below meth c Z own n0 Bs En h cells slots pc Ls (.int x :: S) := by
  subst hp; exact Go.st (fun T X t q => XS.ifNo X C.1 rfl (hb C.2.1 hd) rfl ((if0 _ _).trans ((teq H).2)) q) K
theorem Go.if_ne (C : Cx p meth c bytes ml ret) {pc1 pc2 : Nat} {x : Int32} {o : Int} (hd : decode bytes pc = .ok (.ifCond .ne o, 3)) (ho : 0 ≤ (pc : Int) + o) (hp : ((pc : Int) + o).toNat = pc1) (hp2 : pc + 3 = pc2) (K1 : ¬ x = 0 → Go p l e R s m args below meth c Z own n0 Bs En h cells slots pc1 Ls S) (K2 : x = 0 → Go p l e R s m args below meth c Z own n0 Bs En h cells slots pc2 Ls S) : Go p l e R s m args below meth c Z own n0 Bs En h cells slots pc Ls (.int x :: S) := by
  by_cases H : x = 0
  · exact Go.if_ne_f C hd H hp2 (K2 H)
  · exact Go.if_ne_t C hd H ho hp (K1 H)
theorem Go.icmp_lt_t (C : Cx p meth c bytes ml ret) {x y : Int32} {o : Int} (hd : decode bytes pc = .ok (.if_icmp .lt o, 3)) (H : x < y) (ho : 0 ≤ (pc : Int) + o) (hp : ((pc : Int) + o).toNat = pc') (K : Go p l e R s m args below meth c Z own n0 Bs En h cells slots pc' Ls S) : Go p l e R s m args below meth c Z own n0 Bs En h cells slots pc Ls (.int y :: .int x :: S) := Go.st (fun T X t q => XS.icmpYes X C.1 rfl rfl (hb C.2.1 hd) rfl ((tlt H).1) ho hp q) K
theorem Go.icmp_lt_f (C : Cx p meth c bytes ml ret) {x y : Int32} {o : Int} (hd : decode bytes pc = .ok (.if_icmp .lt o, 3)) (H : ¬ x < y) (hp : pc + 3 = pc') (K : Go p l e R s m args below meth c Z own n0 Bs En h cells slots pc' Ls S) : Go p l e R s m args below meth c Z own n0 Bs En h cells slots pc Ls (.int y :: .int x :: S) := by
  subst hp; exact Go.st (fun T X t q => XS.icmpNo X C.1 rfl (hb C.2.1 hd) rfl ((flt H).1) q) K
theorem Go.icmp_lt (C : Cx p meth c bytes ml ret) {pc1 pc2 : Nat} {x y : Int32} {o : Int} (hd : decode bytes pc = .ok (.if_icmp .lt o, 3)) (ho : 0 ≤ (pc : Int) + o) (hp : ((pc : Int) + o).toNat = pc1) (hp2 : pc + 3 = pc2) (K1 : x < y → Go p l e R s m args below meth c Z own n0 Bs En h cells slots pc1 Ls S) (K2 : ¬ x < y → Go p l e R s m args below meth c Z own n0 Bs En h cells slots pc2 Ls S) : Go p l e R s m args below meth c Z own n0 Bs En h cells slots pc Ls (.int y :: .int x :: S) := by
  by_cases H : x < y
  · exact Go.icmp_lt_t C hd H ho hp (K1 H)
  · exact Go.icmp_lt_f C hd H hp2 (K2 H)
theorem Go.if_lt_t (C : Cx p meth c bytes ml ret) {x : Int32} {o : Int} (hd : decode bytes pc = .ok (.ifCond .lt o, 3)) (H : x < 0) (ho : 0 ≤ (pc : Int) + o) (hp : ((pc : Int) + o).toNat = pc') (K : Go p l e R s m args below meth c Z own n0 Bs En h cells slots pc' Ls S) : Go p l e R s m args below meth c Z own n0 Bs En h cells slots pc Ls (.int x :: S) := Go.st (fun T X t q => XS.ifYes X C.1 rfl rfl (hb C.2.1 hd) rfl ((if0 _ _).trans ((tlt H).1)) ho hp q) K
theorem Go.if_lt_f (C : Cx p meth c bytes ml ret) {x : Int32} {o : Int} (hd : decode bytes pc = .ok (.ifCond .lt o, 3)) (H : ¬ x < 0) (hp : pc + 3 = pc') (K : Go p l e R s m args below meth c Z own n0 Bs En h cells slots pc' Ls S) : Go p l e R s m args below meth c Z own n0 Bs En h cells slots pc Ls (.int x :: S) := by
  subst hp; exact Go.st (fun T X t q => XS.ifNo X C.1 rfl (hb C.2.1 hd) rfl ((if0 _ _).trans ((flt H).1)) q) K
theorem Go.if_lt (C : Cx p meth c bytes ml ret) {pc1 pc2 : Nat} {x : Int32} {o : Int} (hd : decode bytes pc = .ok (.ifCond .lt o, 3)) (ho : 0 ≤ (pc : Int) + o) (hp : ((pc : Int) + o).toNat = pc1) (hp2 : pc + 3 = pc2) (K1 : x < 0 → Go p l e R s m args below meth c Z own n0 Bs En h cells slots pc1 Ls S) (K2 : ¬ x < 0 → Go p l e R s m args below meth c Z own n0 Bs En h cells slots pc2 Ls S) : Go p l e R s m args below meth c Z own n0 Bs En h cells slots pc Ls (.int x :: S) := by
  by_cases H : x < 0
  · exact Go.if_lt_t C hd H ho hp (K1 H)
  · exact Go.if_lt_f C hd H hp2 (K2 H)
theorem Go.icmp_ge_t (C : Cx p meth c bytes ml ret) {x y : Int32} {o : Int} (hd : decode bytes pc = .ok (.if_icmp .ge o, 3)) (H : ¬ x < y) (ho : 0 ≤ (pc : Int) + o) (hp : ((pc : Int) + o).toNat = pc') (K : Go p l e R s m args below meth c Z own n0 Bs En h cells slots pc' Ls S) : Go p l e R s m args below meth c Z own n0 Bs En h cells slots pc Ls (.int y :: .int x :: S) := Go.st (fun T X t q => XS.icmpYes X C.1 rfl rfl (hb C.2.1 hd) rfl ((flt H).2.1) ho hp q) K
theorem Go.icmp_ge_f (C : Cx p meth c bytes ml ret) {x y : Int32} {o : Int} (hd : decode bytes pc = .ok (.if_icmp .ge o, 3)) (H : x < y) (hp : pc + 3 = pc') (K : Go p l e R s m args below meth c Z own n0 Bs En h cells slots pc' Ls S) : Go p l e R s m args below meth c Z own n0 Bs En h cells slots pc Ls (.int y :: .int x :: S) := by
  subst hp; exact Go.st (fun T X t q => XS.icmpNo X C.1 rfl (hb C.2.1 hd) rfl ((tlt H).2.1) q) K
theorem Go.icmp_ge (C : Cx p meth c bytes ml ret) {pc1 pc2 : Nat} {x y : Int32} {o : Int} (hd : decode bytes pc = .ok (.if_icmp .ge o, 3)) (ho : 0 ≤ (pc : Int) + o) (hp : ((pc : Int) + o).toNat = pc1) (hp2 : pc + 3 = pc2) (K1 : ¬ x < y → Go p l e R s m args below meth c Z own n0 Bs En h cells slots pc1 Ls S) (K2 : x < y → Go p l e R s m args below meth c Z own n0 Bs En h cells slots pc2 Ls S) : Go p l e R s m args below meth c Z own n0 Bs En h cells slots pc Ls (.int y :: .int x :: S) := by
  by_cases H : x < y
  · exact Go.icmp_ge_f C hd H hp2 (K2 H)
  · exact Go.icmp_ge_t C hd H ho hp (K1 H)
theorem Go.if_ge_t (C : Cx p meth c bytes ml ret) {x : Int32} {o : Int} (hd : decode bytes pc = .ok (.ifCond .ge o, 3)) (H : ¬ x < 0) (ho : 0 ≤ (pc : Int) + o) (hp : ((pc : Int) + o).toNat = pc') (K : Go p l e R s m args below meth c Z own n0 Bs En h cells slots pc' Ls S) : Go p l e R s m args below meth c Z own n0 Bs En h cells slots pc Ls (.int x :: S) := Go.st (fun T X t q => XS.ifYes X C.1 rfl rfl (hb C.2.1 hd) rfl ((if0 _ _).trans ((flt H).2.1)) ho hp q) K
theorem Go.if_ge_f (C : Cx p meth c bytes ml ret) {x : Int32} {o : Int} (hd : decode bytes pc = .ok (.ifCond .ge o, 3)) (H : x < 0) (hp : pc + 3 = pc') (K : Go p l e R s m args below meth c Z own n0 Bs En h cells slots pc' Ls S) : Go p l e R s m args below meth c Z own n0 Bs En h cells slots pc Ls (.int x :: S) := by
  subst hp; exact Go.st (fun T X t q => XS.ifNo X C.1 rfl (hb C.2.1 hd) rfl ((if0 _ _).trans ((tlt H).2.1)) q) K
theorem Go.if_ge (C : Cx p meth c bytes ml ret) {pc1 pc2 : Nat} {x : Int32} {o : Int} (hd : decode bytes pc = .ok (.ifCond .ge o, 3)) (ho : 0 ≤ (pc : Int) + o) (hp : ((pc : Int) + o).toNat = pc1) (hp2 : pc + 3 = pc2) (K1 : ¬ x < 0 → Go p l e R s m args below meth c Z own n0 Bs En h cells slots pc1 Ls S) (K2 : x < 0 → Go p l e R s m args below meth c Z own n0 Bs En h cells slots pc2 Ls S) : Go p l e R s m args below meth c Z own n0 Bs En h cells slots pc Ls (.int x :: S) := by
  by_cases H : x < 0
  · exact Go.if_ge_f C hd H hp2 (K2 H)
  · exact Go.if_ge_t C hd H ho hp (K1 H)
theorem Go.icmp_gt_t (C : Cx p meth c bytes ml ret) {x y : Int32} {o : Int} (hd : decode bytes pc = .ok (.if_icmp .gt o, 3)) (H : y < x) (ho : 0 ≤ (pc : Int) + o) (hp : ((pc : Int) + o).toNat = pc') (K : Go p l e R s m args below meth c Z own n0 Bs En h cells slots pc' Ls S) : Go p l e R s m args below meth c Z own n0 Bs En h cells slots pc Ls (.int y :: .int x :: S) := Go.st (fun T X t q => XS.icmpYes X C.1 rfl rfl (hb C.2.1 hd) rfl ((tlt H).2.2.1) ho hp q) K
theorem Go.icmp_gt_f (C : Cx p meth c bytes ml ret) {x y : Int32} {o : Int} (hd : decode bytes pc = .ok (.if_icmp .gt o, 3)) (H : ¬ y < x) (hp : pc + 3 = pc') (K : Go p l e R s m args below meth c Z own n0 Bs En h cells slots pc' Ls S) : Go p l e R s m args below meth c Z own n0 Bs En h cells slots pc Ls (.int y :: .int x :: S) := by
  subst hp; exact Go.st (fun T X t q => XS.icmpNo X C.1 rfl (hb C.2.1 hd) rfl ((flt H).2.2.1) q) K
theorem Go.icmp_gt (C : Cx p meth c bytes ml ret) {pc1 pc2 : Nat} {x y : Int32} {o : Int} (hd : decode bytes pc = .ok (.if_icmp .gt o, 3)) (ho : 0 ≤ (pc : Int) + o) (hp : ((pc : Int) + o).toNat = pc1) (hp2 : pc + 3 = pc2) (K1 : y < x → Go p l e R s m args below meth c Z own n0 Bs En h cells slots pc1 Ls S) (K2 : ¬ y < x → Go p l e R s m args below meth c Z own n0 Bs En h cells slots pc2 Ls S) : Go p l e R s m args below meth c Z own n0 Bs En h cells slots pc Ls (.int y :: .int x :: S) := by
  by_cases H : y < x
  · exact Go.icmp_gt_t C hd H ho hp (K1 H)
  · exact Go.icmp_gt_f C hd H hp2 (K2 H)
theorem Go.if_gt_t (C : Cx p meth c bytes ml ret) {x : Int32} {o : Int} (hd : decode bytes pc = .ok (.ifCond .gt o, 3)) (H : 0 < x) (ho : 0 ≤ (pc : Int) + o) (hp : ((pc : Int) + o).toNat = pc') (K : Go p l e R s m args below meth c Z own n0 Bs En h cells slots pc' Ls S) : Go p l e R s m args below meth c Z own n0 Bs En h cells slots pc Ls (.int x :: S) := Go.st (fun T X t q => XS.ifYes X C.1 rfl rfl (hb C.2.1 hd) rfl ((if0 _ _).trans ((tlt H).2.2.1)) ho hp q) K
theorem Go.if_gt_f (C : Cx p meth c bytes ml ret) {x : Int32} {o : Int} (hd : decode bytes pc = .ok (.ifCond .gt o, 3)) (H : ¬ 0 < x) (hp : pc + 3 = pc') (K : Go p l e R s m args below meth c Z own n0 Bs En h cells slots pc' Ls S) : Go p l e R s m args below meth c Z own n0 Bs En h cells slots pc Ls (.int x :: S) := by
  subst hp; exact Go.st (fun T X t q => XS.ifNo X C.1 rfl (hb C.2.1 hd) rfl ((if0 _ _).trans ((flt H).2.2.1)) q) K
theorem Go.if_gt (C : Cx p meth c bytes ml ret) {pc1 pc2 : Nat} {x : Int32} {o : Int} (hd : decode bytes pc = .ok (.ifCond .gt o, 3)) (ho : 0 ≤ (pc : Int) + o) (hp : ((pc : Int) + o).toNat = pc1) (hp2 : pc + 3 = pc2) (K1 : 0 < x → Go p l e R s m args below meth c Z own n0 Bs En h cells slots pc1 Ls S) (K2 : ¬ 0 < x → Go p l e R s m args below meth c Z own n0 Bs En h cells slots pc2 Ls S) : Go p l e R s m args below meth c Z own n0 Bs En h cells slots pc Ls (.int x :: S) := by
  by_cases H : 0 < x
  · exact Go.if_gt_t C hd H ho hp (K1 H)
  · exact Go.if_gt_f C hd H hp2 (K2 H)
theorem Go.icmp_le_t (C : Cx p meth c bytes ml ret) {x y : Int32} {o : Int} (hd : decode bytes pc = .ok (.if_icmp .le o, 3)) (H : ¬ y < x) (ho : 0 ≤ (pc : Int) + o) (hp : ((pc : Int) + o).toNat = pc') (K : Go p l e R s m args below meth c Z own n0 Bs En h cells slots pc' Ls S) : Go p l e R s m args below meth c Z own n0 Bs En h cells slots pc Ls (.int y :: .int x :: S) := Go.st (fun T X t q => XS.icmpYes X C.1 rfl rfl (hb C.2.1 hd) rfl ((flt H).2.2.2) ho hp q) K
theorem Go.icmp_le_f (C : Cx p meth c bytes ml ret) {x y : Int32} {o : Int} (hd : decode bytes pc = .ok (.if_icmp .le o, 3)) (H : y < x) (hp : pc + 3 = pc') (K : Go p l e R s m args below meth c Z own n0 Bs En h cells slots pc' Ls S) : Go p l e R s m args below meth c Z own n0 Bs En h cells slots pc Ls (.int y :: .int x :: S) := by
  subst hp; exact Go.st (fun T X t q => XS.icmpNo X C.1 rfl (hb C.2.1 hd) rfl ((tlt H).2.2.2) q) K
theorem Go.icmp_le (C : Cx p meth c bytes ml ret) {pc1 pc2 : Nat} {x y : Int32} {o : Int} (hd : decode bytes pc = .ok (.if_icmp .le o, 3)) (ho : 0 ≤ (pc : Int) + o) (hp : ((pc : Int) + o).toNat = pc1) (hp2 : pc + 3 = pc2) (K1 : ¬ y < x → Go p l e R s m args below meth c Z own n0 Bs En h cells slots pc1 Ls S) (K2 : y < x → Go p l e R s m args below meth c Z own n0 Bs En h cells slots pc2 Ls S) : Go p l e R s m args below meth c Z own n0 Bs En h cells slots pc Ls (.int y :: .int x :: S) := by
  by_cases H : y < x
  · exact Go.icmp_le_f C hd H hp2 (K2 H)
  · exact Go.icmp_le_t C hd H ho hp (K1 H)
theorem Go.if_le_t (C : Cx p meth c bytes ml ret) {x : Int32} {o : Int} (hd : decode bytes pc = .ok (.ifCond .le o, 3)) (H : ¬ 0 < x) (ho : 0 ≤ (pc : Int) + o) (hp : ((pc : Int) + o).toNat = pc') (K : Go p l e R s m args below meth c Z own n0 Bs En h cells slots pc' Ls S) : Go p l e R s m args below meth c Z own n0 Bs En h cells slots pc Ls (.int x :: S) := Go.st (fun T X t q => XS.ifYes X C.1 rfl rfl (hb C.2.1 hd) rfl ((if0 _ _).trans ((flt H).2.2.2)) ho hp q) K
theorem Go.if_le_f (C : Cx p meth c bytes ml ret) {x : Int32} {o : Int} (hd : decode bytes pc = .ok (.ifCond .le o, 3)) (H : 0 < x) (hp : pc + 3 = pc') (K : Go p l e R s m args below meth c Z own n0 Bs En h cells slots pc' Ls S) : Go p l e R s m args below meth c Z own n0 Bs En h cells slots pc Ls (.int x :: S) := by
  subst hp; exact Go.st (fun T X t q => XS.ifNo X C.1 rfl (hb C.2.1 hd) rfl ((if0 _ _).trans ((tlt H).2.2.2)) q) K
theorem Go.if_le (C : Cx p meth c bytes ml ret) {pc1 pc2 : Nat} {x : Int32} {o : Int} (hd : decode bytes pc = .ok (.ifCond .le o, 3)) (ho : 0 ≤ (pc : Int) + o) (hp : ((pc : Int) + o).toNat = pc1) (hp2 : pc + 3 = pc2) (K1 : ¬ 0 < x → Go p l e R s m args below meth c Z own n0 Bs En h cells slots pc1 Ls S) (K2 : 0 < x → Go p l e R s m args below meth c Z own n0 Bs En h cells slots pc2 Ls S) : Go p l e R s m args below meth c Z own n0 Bs En h cells slots pc Ls (.int x :: S) := by
  by_cases H : 0 < x
  · exact Go.if_le_f C hd H hp2 (K2 H)
  · exact Go.if_le_t C hd H ho hp (K1 H)
theorem Go.ifnull_t (C : Cx p meth c bytes ml ret) {o : Int} (hd : decode bytes pc = .ok (.ifnull o, 3)) (ho : 0 ≤ (pc : Int) + o) (hp : ((pc : Int) + o).toNat = pc') (K : Go p l e R s m args below meth c Z own n0 Bs En h cells slots pc' Ls S) : Go p l e R s m args below meth c Z own n0 Bs En h cells slots pc Ls (.null :: S) := Go.st (fun T X t q => XS.ifnullYes X C.1 rfl rfl (hb C.2.1 hd) rfl ho hp q) K
theorem Go.ifnull_f (C : Cx p meth c bytes ml ret) {o : Int} {b : Addr} (hd : decode bytes pc = .ok (.ifnull o, 3))  (hp : pc + 3 = pc') (K : Go p l e R s m args below meth c Z own n0 Bs En h cells slots pc' Ls (S)) : Go p l e R s m args below meth c Z own n0 Bs En h cells slots pc Ls (.ref b :: S) := by
  subst hp; exact Go.st (fun T X t q => XS.ifnullNo X C.1 rfl (hb C.2.1 hd) rfl q) K
theorem Go.ifnonnull_t (C : Cx p meth c bytes ml ret) {o : Int} {b : Addr} (hd : decode bytes pc = .ok (.ifnonnull o, 3)) (ho : 0 ≤ (pc : Int) + o) (hp : ((pc : Int) + o).toNat = pc') (K : Go p l e R s m args below meth c Z own n0 Bs En h cells slots pc' Ls S) : Go p l e R s m args below meth c Z own n0 Bs En h cells slots pc Ls (.ref b :: S) := Go.st (fun T X t q => XS.ifnonnullYes X C.1 rfl rfl (hb C.2.1 hd) rfl ho hp q) K
theorem Go.ifnonnull_f (C : Cx p meth c bytes ml ret) {o : Int} (hd : decode bytes pc = .ok (.ifnonnull o, 3))  (hp : pc + 3 = pc') (K : Go p l e R s m args below meth c Z own n0 Bs En h cells slots pc' Ls (S)) : Go p l e R s m args below meth c Z own n0 Bs En h cells slots pc Ls (.null :: S) := by
  subst hp; exact Go.st (fun T X t q => XS.ifnonnullNo X C.1 rfl (hb C.2.1 hd) rfl q) K
theorem Go.acmp_eq_t (C : Cx p meth c bytes ml ret) {o : Int} {x y : Value} (hd : decode bytes pc = .ok (.if_acmp .eq o, 3)) (h1 : x.isRef = true) (h2 : y.isRef = true) (H : x = y) (ho : 0 ≤ (pc : Int) + o) (hp : ((pc : Int) + o).toNat = pc') (K : Go p l e R s m args below meth c Z own n0 Bs En h cells slots pc' Ls S) : Go p l e R s m args below meth c Z own n0 Bs En h cells slots pc Ls (y :: x :: S) := fun vm0 T locs q1 q2 q3 X q4 q5 => by
  obtain ⟨s₂, o', L, k1, k2⟩ := K vm0 T locs q1 q2 q3 X q4 q5
  exact ⟨s₂, o', L, acmp X C.1 rfl h1 h2 rfl (hb C.2.1 hd) rfl (decide_eq_true H) ho (by rw [← hp]; rfl) k1, k2⟩
theorem Go.acmp_eq_f (C : Cx p meth c bytes ml ret) {o : Int} {x y : Value} (hd : decode bytes pc = .ok (.if_acmp .eq o, 3)) (h1 : x.isRef = true) (h2 : y.isRef = true) (H : ¬ x = y) (ho : 0 ≤ (pc : Int) + o) (hp : pc + 3 = pc') (K : Go p l e R s m args below meth c Z own n0 Bs En h cells slots pc' Ls S) : Go p l e R s m args below meth c Z own n0 Bs En h cells slots pc Ls (y :: x :: S) := fun vm0 T locs q1 q2 q3 X q4 q5 => by
  obtain ⟨s₂, o', L, k1, k2⟩ := K vm0 T locs q1 q2 q3 X q4 q5
  exact ⟨s₂, o', L, acmp X C.1 rfl h1 h2 rfl (hb C.2.1 hd) rfl (decide_eq_false H) ho (by rw [← hp]; rfl) k1, k2⟩
theorem Go.acmp_ne_t (C : Cx p meth c bytes ml ret) {o : Int} {x y : Value} (hd : decode bytes pc = .ok (.if_acmp .ne o, 3)) (h1 : x.isRef = true) (h2 : y.isRef = true) (H : ¬ x = y) (ho : 0 ≤ (pc : Int) + o) (hp : ((pc : Int) + o).toNat = pc') (K : Go p l e R s m args below meth c Z own n0 Bs En h cells slots pc' Ls S) : Go p l e R s m args below meth c Z own n0 Bs En h cells slots pc Ls (y :: x :: S) := fun vm0 T locs q1 q2 q3 X q4 q5 => by
  obtain ⟨s₂, o', L, k1, k2⟩ := K vm0 T locs q1 q2 q3 X q4 q5
  exact ⟨s₂, o', L, acmp X C.1 rfl h1 h2 rfl (hb C.2.1 hd) rfl (decide_eq_false H) ho (by rw [← hp]; rfl) k1, k2⟩
theorem Go.acmp_ne_f (C : Cx p meth c bytes ml ret) {o : Int} {x y : Value} (hd : decode bytes pc = .ok (.if_acmp .ne o, 3)) (h1 : x.isRef = true) (h2 : y.isRef = true) (H : x = y) (ho : 0 ≤ (pc : Int) + o) (hp : pc + 3 = pc') (K : Go p l e R s m args below meth c Z own n0 Bs En h cells slots pc' Ls S) : Go p l e R s m args below meth c Z own n0 Bs En h cells slots pc Ls (y :: x :: S) := fun vm0 T locs q1 q2 q3 X q4 q5 => by
  obtain ⟨s₂, o', L, k1, k2⟩ := K vm0 T locs q1 q2 q3 X q4 q5
  exact ⟨s₂, o', L, acmp X C.1 rfl h1 h2 rfl (hb C.2.1 hd) rfl (decide_eq_true H) ho (by rw [← hp]; rfl) k1, k2⟩
theorem Go.same {Ls' : Array Slot} {S' : List Value} (f : ∀ (vm0 : Vm) (T : State) (locs : List Loc), Z.Warmed39 vm0 → vm0.findClass own = some m.cls → Stand p l e R (s.setVm vm0) m args below meth c T locs cells slots → T.heap = h → ∃ T', Stand p l e R (s.setVm vm0) m args below meth c T' locs cells slots ∧ T'.heap = h ∧ ∀ target, Steps p.tables e below (T'.setTop (mkF m pc' Ls' S')) target → Steps p.tables e below (T.setTop (mkF m pc Ls S)) target)
    (K : Go p l e R s m args below meth c Z own n0 Bs En h cells slots pc' Ls' S') : Go p l e R s m args below meth c Z own n0 Bs En h cells slots pc Ls S := fun vm0 T locs q1 q2 q3 X q4 q5 => by
  obtain ⟨T', X', e', st⟩ := f vm0 T locs q1 q2 X q5
  obtain ⟨s₂, o, L, h1, h2⟩ := K vm0 T' locs q1 q2 q3 X' q4 e'
  exact ⟨s₂, o, L, st _ h1, h2⟩
theorem Go.ldcInt (C : Cx p meth c bytes ml ret) {i : Nat} {v : Int32} (hd : decode bytes pc = .ok (.ldc i, 2)) (w : (Cond.constant own i v).before a0 Z = true) (hp : pc + 2 = pc') (K : Go p l e R s m args below meth c Z own n0 Bs En h cells slots pc' Ls (.int v :: S)) : Go p l e R s m args below meth c Z own n0 Bs En h cells slots pc Ls (S) := by
  subst hp; exact Go.same (fun vm0 T locs hZ hown X eT => by exact ⟨T, X, eT, X.ldcInt C.1 hown (mvT (s := s.setVm vm0) hZ w) (g := mkF m pc Ls (S)) rfl (hb C.2.1 hd)⟩) K
theorem Go.ldc2Long (C : Cx p meth c bytes ml ret) {i : Nat} {v : Int64} (hd : decode bytes pc = .ok (.ldc2_w i, 3)) (w : (Cond.constantLong own i v).before a0 Z = true) (hp : pc + 3 = pc') (K : Go p l e R s m args below meth c Z own n0 Bs En h cells slots pc' Ls (.long v :: S)) : Go p l e R s m args below meth c Z own n0 Bs En h cells slots pc Ls (S) := by
  subst hp; exact Go.same (fun vm0 T locs hZ hown X eT => by exact ⟨T, X, eT, X.ldc2Long C.1 hown (mvT (s := s.setVm vm0) hZ w) (g := mkF m pc Ls (S)) rfl (hb C.2.1 hd)⟩) K
theorem Go.arraylength (C : Cx p meth c bytes ml ret) {a : Addr} {cl : Cell} {ty : FieldType} {z : Int32} (hd : decode bytes pc = .ok (.arraylength, 1)) (A : Arr Z h a cl ty) (hz : cl.slots.size.toInt32 = z) (hp : pc + 1 = pc') (K : Go p l e R s m args below meth c Z own n0 Bs En h cells slots pc' Ls (.int z :: S)) : Go p l e R s m args below meth c Z own n0 Bs En h cells slots pc Ls (.ref a :: S) := by
  subst hp; exact Go.same (fun vm0 T locs hZ hown X eT => by subst hz; exact ⟨T, X, eT, fun t q => X.arraylength C.1 (by rw [eT]; exact A.1) (State.isArrayOf_alike (T := s.setVm vm0) hZ.alike A.2.1) (g := mkF m pc Ls (.ref a :: S)) rfl rfl (hb C.2.1 hd) t q⟩) K
theorem Go.iaload (C : Cx p meth c bytes ml ret) {a : Addr} {cl : Cell} {j : Int32} {v : Value} (hd : decode bytes pc = .ok (.iaload, 1)) (A : Arr Z h a cl .int) (hin : ¬ (j < 0 ∨ cl.slots.size ≤ j.toNatClampNeg)) (hv : cl.slots[j.toNatClampNeg]? = some v) (hp : pc + 1 = pc') (K : Go p l e R s m args below meth c Z own n0 Bs En h cells slots pc' Ls (v :: S)) : Go p l e R s m args below meth c Z own n0 Bs En h cells slots pc Ls (.int j :: .ref a :: S) := by
  subst hp; exact Go.same (fun vm0 T locs hZ hown X eT => by exact ⟨T, X, eT, fun t q => X.iaload C.1 (by rw [eT]; exact A.1) (State.isArrayOf_alike (T := s.setVm vm0) hZ.alike A.2.1) A.2.2 hin hv (g := mkF m pc Ls (.int j :: .ref a :: S)) rfl rfl (hb C.2.1 hd) t q⟩) K
theorem Go.laload (C : Cx p meth c bytes ml ret) {a : Addr} {cl : Cell} {j : Int32} {v : Value} (hd : decode bytes pc = .ok (.laload, 1)) (A : Arr Z h a cl .long) (hin : ¬ (j < 0 ∨ cl.slots.size ≤ j.toNatClampNeg)) (hv : cl.slots[j.toNatClampNeg]? = some v) (hp : pc + 1 = pc') (K : Go p l e R s m args below meth c Z own n0 Bs En h cells slots pc' Ls (v :: S)) : Go p l e R s m args below meth c Z own n0 Bs En h cells slots pc Ls (.int j :: .ref a :: S) := by
  subst hp; exact Go.same (fun vm0 T locs hZ hown X eT => by exact ⟨T, X, eT, fun t q => X.laload C.1 (by rw [eT]; exact A.1) (State.isArrayOf_alike (T := s.setVm vm0) hZ.alike A.2.1) A.2.2 hin hv (g := mkF m pc Ls (.int j :: .ref a :: S)) rfl rfl (hb C.2.1 hd) t q⟩) K
theorem Go.caload (C : Cx p meth c bytes ml ret) {a : Addr} {cl : Cell} {j : Int32} {v : Value} (hd : decode bytes pc = .ok (.caload, 1)) (A : Arr Z h a cl .char) (hin : ¬ (j < 0 ∨ cl.slots.size ≤ j.toNatClampNeg)) (hv : cl.slots[j.toNatClampNeg]? = some v) (hp : pc + 1 = pc') (K : Go p l e R s m args below meth c Z own n0 Bs En h cells slots pc' Ls (v :: S)) : Go p l e R s m args below meth c Z own n0 Bs En h cells slots pc Ls (.int j :: .ref a :: S) := by
  subst hp; exact Go.same (fun vm0 T locs hZ hown X eT => by exact ⟨T, X, eT, fun t q => X.caload C.1 (by rw [eT]; exact A.1) (State.isArrayOf_alike (T := s.setVm vm0) hZ.alike A.2.1) A.2.2 hin hv (g := mkF m pc Ls (.int j :: .ref a :: S)) rfl rfl (hb C.2.1 hd) t q⟩) K
theorem Go.baload (C : Cx p meth c bytes ml ret) {a : Addr} {cl : Cell} {j : Int32} {v : Value} (hd : decode bytes pc = .ok (.baload, 1)) (A : Arr Z h a cl .byte) (hin : ¬ (j < 0 ∨ cl.slots.size ≤ j.toNatClampNeg)) (hv : cl.slots[j.toNatClampNeg]? = some v) (hp : pc + 1 = pc') (K : Go p l e R s m args below meth c Z own n0 Bs En h cells slots pc' Ls (v :: S)) : Go p l e R s m args below meth c Z own n0 Bs En h cells slots pc Ls (.int j :: .ref a :: S) := by
  subst hp; exact Go.same (fun vm0 T locs hZ hown X eT => by exact ⟨T, X, eT, fun t q => X.baloadBytes C.1 (by rw [eT]; exact A.1) (State.isArrayOf_alike (T := s.setVm vm0) hZ.alike A.2.1) A.2.2 hin hv (g := mkF m pc Ls (.int j :: .ref a :: S)) rfl rfl (hb C.2.1 hd) t q⟩) K
theorem Go.aaload (C : Cx p meth c bytes ml ret) {a : Addr} {cl : Cell} {j : Int32} {v : Value} {ty : FieldType} (hd : decode bytes pc = .ok (.aaload, 1)) (A : Arr Z h a cl ty) (hty : ty.isReference = true) (hin : ¬ (j < 0 ∨ cl.slots.size ≤ j.toNatClampNeg)) (hv : cl.slots[j.toNatClampNeg]? = some v) (hp : pc + 1 = pc') (K : Go p l e R s m args below meth c Z own n0 Bs En h cells slots pc' Ls (v :: S)) : Go p l e R s m args below meth c Z own n0 Bs En h cells slots pc Ls (.int j :: .ref a :: S) := by
  subst hp; exact Go.same (fun vm0 T locs hZ hown X eT => by exact ⟨T, X, eT, fun t q => X.aaload C.1 (by rw [eT]; exact A.1) (State.isArrayOf_alike (T := s.setVm vm0) hZ.alike A.2.1) hty A.2.2 hin hv (g := mkF m pc Ls (.int j :: .ref a :: S)) rfl rfl (hb C.2.1 hd) t q⟩) K
theorem Go.getF (C : Cx p meth c bytes ml ret) {i : Nat} {a : Addr} {R0 O n d : String} {v : Value} (hd : decode bytes pc = .ok (.getfield i, 3)) (w : (Cond.fieldLink own i R0 n d).before a0 Z = true) (via : Via Z R0 O n d) (F : Fld Z h a O n d v) (hp : pc + 3 = pc') (K : Go p l e R s m args below meth c Z own n0 Bs En h cells slots pc' Ls (v :: S)) : Go p l e R s m args below meth c Z own n0 Bs En h cells slots pc Ls (.ref a :: S) := by
  subst hp; exact Go.same (fun vm0 T locs hZ hown X eT => by exact getF (host := "") X C.1 hZ hown (Or.inl w) via eT F (g := mkF m pc Ls (.ref a :: S)) rfl rfl (hb C.2.1 hd)) K
theorem Go.getS (C : Cx p meth c bytes ml ret) {i : Nat} {R0 O n d : String} {v : Value} (hd : decode bytes pc = .ok (.getstatic i, 3)) (w : (Cond.fieldLink own i R0 n d).before a0 Z = true) (via : Via Z R0 O n d) (F : Sta Z h O n d v) (hp : pc + 3 = pc') (K : Go p l e R s m args below meth c Z own n0 Bs En h cells slots pc' Ls (v :: S)) : Go p l e R s m args below meth c Z own n0 Bs En h cells slots pc Ls (S) := by
  subst hp; exact Go.same (fun vm0 T locs hZ hown X eT => by exact getS2 (host := "") X C.1 hZ hown (Or.inl w) via eT F (g := mkF m pc Ls (S)) rfl (hb C.2.1 hd)) K
theorem Go.castY (C : Cx p meth c bytes ml ret) {i : Nat} {a : Addr} {K0 : String} (hd : decode bytes pc = .ok (.checkcast i, 3)) (w : (Cond.classLink own i K0).before a0 Z = true) (F : Ins Z h a K0 true) (hp : pc + 3 = pc') (K : Go p l e R s m args below meth c Z own n0 Bs En h cells slots pc' Ls (.ref a :: S)) : Go p l e R s m args below meth c Z own n0 Bs En h cells slots pc Ls (.ref a :: S) := by
  subst hp; exact Go.same (fun vm0 T locs hZ hown X eT => by exact castY X C.1 hZ hown w eT F (g := mkF m pc Ls (.ref a :: S)) rfl rfl (hb C.2.1 hd)) K
theorem Go.instY (C : Cx p meth c bytes ml ret) {i : Nat} {a : Addr} {K0 : String} (hd : decode bytes pc = .ok (.instanceof i, 3)) (w : (Cond.classLink own i K0).before a0 Z = true) (F : Ins Z h a K0 true) (hp : pc + 3 = pc') (K : Go p l e R s m args below meth c Z own n0 Bs En h cells slots pc' Ls (.int 1 :: S)) : Go p l e R s m args below meth c Z own n0 Bs En h cells slots pc Ls (.ref a :: S) := by
  subst hp; exact Go.same (fun vm0 T locs hZ hown X eT => by exact instY X C.1 hZ hown w eT F (g := mkF m pc Ls (.ref a :: S)) rfl rfl (hb C.2.1 hd)) K
end Rules
end Jvm.Own
namespace Jvm.Own
open Jvm Jvm.ClassFile Sem Op Lib Jvm.Free Jvm.Stand Jvm.LawKit Jvm.RoadKit Bundle
section Heaps
variable {p : Program} {l : Launch} {e : Env} {R : Room} {s : State} {m : MethodId} {args : Array Value} {below : List Frame} {meth : Method} {c : Code} {Z : State} {own : String} {n0 : Nat} {Bs : Vm → Heap → Prop} {En : Outcome → State → List Loc → Prop} {h : Heap} {cells slots pc pc' : Nat} {Ls : Array Slot} {S : List Value} {bytes : ByteArray} {ml : Nat} {ret : Option FieldType} {a0 : Array Value}
/-- Bs goes along with a heap that only grew -/
def BsE (Bs : Vm → Heap → Prop) : Prop := ∀ vm h h', Ext h h' → Bs vm h → Bs vm h'
/-- the base of a walk that interns nothing -/
def Bn (s : State) : Vm → Heap → Prop := fun vm _ => vm = s.vm
theorem bnE : ∀ vm h', Ext h h' → h.size < h'.size → Bn s vm h → Bn s vm h' := fun _ _ _ _ q => q
theorem Go.newO (C : Cx p meth c bytes ml ret) {Bs' : Vm → Heap → Prop} (hE : ∀ vm h', Ext h h' → h.size < h'.size → Bs vm h → Bs' vm h') {i n : Nat} {C0 : String} (hd : decode bytes pc = .ok (.new i, 3)) (w1 : (Cond.classLink own i C0).before a0 Z = true) (w2 : (Cond.instantiable C0 n).before a0 Z = true) (w3 : (Cond.initialized C0).before a0 Z = true) (hc : cells + 1 ≤ R.cells) (hl : slots + n ≤ R.slots) (hp : pc + 3 = pc')
    (K : ∀ h', Ext h h' → Exa Z h' h.size C0 → (∀ {O nm d : String} {ty : FieldType}, Laid Z a0 C0 O nm d → parseFieldDescriptor d = some ty → Fld Z h' h.size O nm d (defaultValue ty)) → Unt h' h.size → Go p l e R s m args below meth c Z own n0 Bs' En h' (cells + 1) (slots + n) pc' Ls (.ref h.size :: S)) :
    Go p l e R s m args below meth c Z own n0 Bs En h cells slots pc Ls S := fun vm0 T locs hZ hown hB X hF eT => by
  subst hp
  obtain ⟨T', h', X', e', E, A, D, N, st⟩ := Jvm.RoadKit.newO X C.1 hZ hown w1 w2 w3 eT (g := mkF m pc Ls S) rfl (hb C.2.1 hd) hc hl
  obtain ⟨s₂, o, L, k1, k2⟩ := K h' E A D N vm0 T' locs hZ hown (hE _ _ E A.lt hB) X' hF e'
  exact ⟨s₂, o, L, st _ k1, k2⟩
theorem Go.newP (C : Cx p meth c bytes ml ret) {Bs' : Vm → Heap → Prop} (hE : ∀ vm h', Ext h h' → h.size < h'.size → Bs vm h → Bs' vm h') {aty : ArrayType} {n : Int32} (hd : decode bytes pc = .ok (.newarray aty, 2)) (w : (Cond.arrayClass (newarray.typeOf aty)).before a0 Z = true) (hn : ¬ n < 0) {cap : Nat} (hcap : n.toNatClampNeg ≤ cap) (hb8 : cap * 8 ≤ 536870912) (hc : cells + 1 ≤ R.cells) (hl : slots + cap ≤ R.slots) (hp : pc + 2 = pc')
    (K : ∀ h' cA, Ext h h' → Arr Z h' h.size (newA cA (newarray.typeOf aty) n) (newarray.typeOf aty) → Go p l e R s m args below meth c Z own n0 Bs' En h' (cells + 1) (slots + cap) pc' Ls (.ref h.size :: S)) :
    Go p l e R s m args below meth c Z own n0 Bs En h cells slots pc Ls (.int n :: S) := fun vm0 T locs hZ hown hB X hF eT => by
  subst hp
  obtain ⟨T', h', cA, X', e', E, A, st⟩ := Jvm.RoadKit.newP X C.1 hZ w eT (g := mkF m pc Ls (.int n :: S)) rfl (hb C.2.1 hd) rfl hn hcap hb8 hc hl
  obtain ⟨s₂, o, L, k1, k2⟩ := K h' cA E A vm0 T' locs hZ hown (hE _ _ E A.lt hB) X' hF e'
  exact ⟨s₂, o, L, st _ k1, k2⟩
theorem Go.castore (C : Cx p meth c bytes ml ret) {a : Addr} {cl : Cell} {j x : Int32} (hd : decode bytes pc = .ok (.castore, 1)) (A : Arr Z h a cl .char) (hj : ¬ (j < 0 ∨ cl.slots.size ≤ j.toNatClampNeg)) (hn : n0 ≤ a) (hB : ∀ vm h', Wr h h' a j.toNatClampNeg (.int (nar .char x)) → Bs vm h → Bs vm h') (hp : pc + 1 = pc')
    (K : ∀ h', Wr h h' a j.toNatClampNeg (.int (nar .char x)) → Go p l e R s m args below meth c Z own n0 Bs En h' cells slots pc' Ls S) :
    Go p l e R s m args below meth c Z own n0 Bs En h cells slots pc Ls (.int x :: .int j :: .ref a :: S) := fun vm0 T locs hZ hown hBs X hF eT => by
  subst hp
  obtain ⟨T', h', X', e', W, st⟩ := stC X C.1 hZ eT A hj (g := mkF m pc Ls (.int x :: .int j :: .ref a :: S)) rfl rfl (hb C.2.1 hd)
  obtain ⟨s₂, o, L, k1, k2⟩ := K h' W vm0 T' _ hZ hown (hB _ _ W hBs) X' (Fr.snoc X' hF hn) e'
  exact ⟨s₂, o, L, st _ k1, k2⟩
theorem Go.bastore (C : Cx p meth c bytes ml ret) {a : Addr} {cl : Cell} {j x : Int32} (hd : decode bytes pc = .ok (.bastore, 1)) (A : Arr Z h a cl .byte) (hj : ¬ (j < 0 ∨ cl.slots.size ≤ j.toNatClampNeg)) (hn : n0 ≤ a) (hB : ∀ vm h', Wr h h' a j.toNatClampNeg (.int (nar .byte x)) → Bs vm h → Bs vm h') (hp : pc + 1 = pc')
    (K : ∀ h', Wr h h' a j.toNatClampNeg (.int (nar .byte x)) → Go p l e R s m args below meth c Z own n0 Bs En h' cells slots pc' Ls S) :
    Go p l e R s m args below meth c Z own n0 Bs En h cells slots pc Ls (.int x :: .int j :: .ref a :: S) := fun vm0 T locs hZ hown hBs X hF eT => by
  subst hp
  obtain ⟨T', h', X', e', W, st⟩ := stB X C.1 hZ eT A hj (g := mkF m pc Ls (.int x :: .int j :: .ref a :: S)) rfl rfl (hb C.2.1 hd)
  obtain ⟨s₂, o, L, k1, k2⟩ := K h' W vm0 T' _ hZ hown (hB _ _ W hBs) X' (Fr.snoc X' hF hn) e'
  exact ⟨s₂, o, L, st _ k1, k2⟩
theorem Go.putF (C : Cx p meth c bytes ml ret) {i kk : Nat} {R0 O n d C0 : String} {ty : FieldType} {a : Addr} {v old : Value} (hd : decode bytes pc = .ok (.putfield i, 3)) (w : (Cond.fieldLink own i R0 n d).before a0 Z = true) (via : Via Z R0 O n d) (F : Fld Z h a O n d old) (E : Exa Z h a C0)
    (L : (Cond.lays C0 O n d).before a0 Z = true ∨ ((Cond.laysFinal C0 O n d).before a0 Z = true ∧ own = O ∧ meth.name = "<init>")) (wi : (Cond.instantiable C0 kk).before a0 Z = true) (hty : parseFieldDescriptor d = some ty) (hnv : narrow ty v = v) (hf : fits ty v = true) (hn : n0 ≤ a) (hB : ∀ vm h', Wr h h' a (Jvm.RoadKit.slotOf Z O n d) v → Bs vm h → Bs vm h') (hp : pc + 3 = pc')
    (K : ∀ h', Wr h h' a (Jvm.RoadKit.slotOf Z O n d) v → Go p l e R s m args below meth c Z own n0 Bs En h' cells slots pc' Ls S) :
    Go p l e R s m args below meth c Z own n0 Bs En h cells slots pc Ls (v :: .ref a :: S) := fun vm0 T locs hZ hown hBs X hF eT => by
  subst hp
  obtain ⟨T', h', X', e', W, st⟩ := Jvm.RoadKit.putF (host := "") X C.1 hZ hown (Or.inl w) via eT F E L wi hty hnv hf (g := mkF m pc Ls (v :: .ref a :: S)) rfl rfl (hb C.2.1 hd)
  obtain ⟨s₂, o, L, k1, k2⟩ := K h' W vm0 T' _ hZ hown (hB _ _ W hBs) X' (Fr.snoc X' hF hn) e'
  exact ⟨s₂, o, L, st _ k1, k2⟩
theorem Go.initO (C : Cx p meth c bytes ml ret) {i : Nat} {a : Addr} (hd : decode bytes pc = .ok (.invokespecial i, 3)) (w1 : (Cond.methodLink own i Lib.objectInit).before a0 Z = true) (w2 : (Cond.instanceMethod Lib.objectInit).before a0 Z = true) (w3 : (Cond.code Lib.objectInit ⟨#[0xb1]⟩ 1 none).before a0 Z = true)
    (hsz : Ls.size = ml) (hfr : 1 ≤ R.frames) (hlo : (S.map fun v => v.category).sum + 12 ≤ R.locals) (hp : pc + 3 = pc') (K : Go p l e R s m args below meth c Z own n0 Bs En h cells slots pc' Ls S) :
    Go p l e R s m args below meth c Z own n0 Bs En h cells slots pc Ls (.ref a :: S) := by
  subst hp
  exact Go.same (fun vm0 T locs hZ hown X eT => Jvm.RoadKit.initO X C.1 hZ hown w1 w2 w3 eT (g := mkF m pc Ls (.ref a :: S)) rfl (by rw [C.2.2.1]; exact hsz) rfl (hb C.2.1 hd) hfr (W := (S.map fun v => v.category).sum) (by show 2 * 0 + _ ≤ _; omega) hlo) K
/-! ### calls: by whatever pays them -/
/-- a payment in the road kit's own form, whatever the tables that the walk has come to -/
def Pay (l : Launch) (R : Room) (p : Program) (e : Env) (below : List Frame) (s : State) (args : Array Value) (Z : State) (y : MethodName) (ln W : Nat) (as' : Array Value) (h : Heap) (kc ks : Nat) (Q : Option Value → Heap → List Loc → Prop) : Prop :=
  ∀ vm0 : Vm, Z.Warmed39 vm0 → Back l R p e below (s.setVm vm0) args y ln W (fun A a => a = as' ∧ A.U.heap = h ∧ A.cells + kc ≤ R.cells ∧ A.slots + ks ≤ R.slots) (fun A _ v B => ∃ L, Q v B.U.heap L ∧ B.locs = A.locs ++ L ∧ B.cells = A.cells + kc ∧ B.slots = A.slots + ks)
/-- a contract of a body: from the heap h0, with the arguments as', it returns, Q holds, and nothing below n0 was written -/
def Ct (l : Launch) (Z : State) (y : MethodName) (yb : ByteArray) (yl : Nat) (yr : Option FieldType) (ws : List Jvm.Cond) (rm : Room) (as' : Array Value) (h0 : Heap) (n0 : Nat) (Q : Option Value → Heap → Prop) : Prop :=
  MetFree l y (head1 (Cond.code y yb yl yr :: ws) rm) (fun a U => a = as' ∧ Z.Warmed39 U.vm ∧ U.heap = h0) (fun _ _ _ _ _ => True) (fun _ U o U' => ∃ v L, o = .returned v ∧ (Q v U'.heap ∧ Fr n0 L) ∧ FrameEnd U o U' L rm.cells rm.slots)
/-- how a walk of a contract ends -/
def EnN (s : State) (R : Room) (n0 : Nat) (Q : Option Value → Heap → Prop) : Outcome → State → List Loc → Prop := fun o s₂ L => ∃ v, o = .returned v ∧ (Q v s₂.heap ∧ Fr n0 L) ∧ FrameEnd s o s₂ L R.cells R.slots
theorem Ct.of {y : MethodName} {yb : ByteArray} {yl : Nat} {yr : Option FieldType} {ws : List Jvm.Cond} {rm : Room} {as' : Array Value} {h0 : Heap} {Q : Option Value → Heap → Prop} {L0 : Array Slot} (hp : plainFor y = true) (hef : ∀ m, entryFrame m as' yl = mkF m 0 L0 [])
    (body : ∀ (p : Program) (e : Env) (s : State) (m : MethodId) (below : List Frame) (meth : Method) (c : Code), Cx p meth c yb yl yr → meth.name = y.name → Go p l e rm s m as' below meth c Z y.cls n0 (Bn s) (EnN s rm n0 Q) h0 0 0 0 L0 []) : Ct l Z y yb yl yr ws rm as' h0 n0 Q := by
  refine MetFree.of_bodySF hp hisR ?_
  intro p e s m args below meth c s₁ Bd hml0 hP hK
  obtain ⟨rfl, hZ, hh⟩ := hP
  have X0 := Stand.of_body Bd
  obtain ⟨s₂, o, L, h1, h2, h3, v, h4⟩ := body p e s m below meth c ⟨Bd.exec, Bd.bytes, hml0, Bd.returns, Bd.notSynchronized⟩ (name_of_methodNamed Bd.named Bd.method).1 s.vm s₁ [] hZ (findClass_of_methodNamed Bd.named) rfl X0 (Fr.nil n0) (by rw [← hh, Bd.state]; rfl)
  exact ⟨s₂, o, castTop (hef m) h1, h2, h3, v, L, h4⟩
theorem Ct.pay {y : MethodName} {yb : ByteArray} {yl : Nat} {yr : Option FieldType} {rm : Room} {as' : Array Value} {ln W : Nat} {Q : Option Value → Heap → Prop} (hM : Ct l Z y yb yl yr [] rm as' h n0 Q) (w4 : (Cond.code y yb yl yr).before a0 Z = true) (w3 : (Cond.initialized y.cls).before a0 Z = true) (hfr : rm.frames + 1 ≤ R.frames) (hlo : W + (yl + 11) + rm.locals ≤ R.locals) :
    Pay l R p e below s args Z y ln W as' h rm.cells rm.slots (fun v h' L => Q v h' ∧ Fr n0 L) := fun vm0 hZ =>
  backOf (s := s.setVm vm0) (Q := fun v h' L => Q v h' ∧ Fr n0 L) hM hZ w4 w3 hfr hlo
theorem Go.callS (C : Cx p meth c bytes ml ret) {i : Nat} {y : MethodName} {yb : ByteArray} {yl : Nat} {yr : Option FieldType} {argsL rest : List Value} {W kc ks : Nat} {Q : Option Value → Heap → List Loc → Prop}
    (hd : decode bytes pc = .ok (.invokestatic i, 3)) (w1 : (Cond.methodLink own i y).before a0 Z = true) (w2 : (Cond.static y).before a0 Z = true) (w3 : (Cond.initialized y.cls).before a0 Z = true) (w4 : (Cond.code y yb yl yr).before a0 Z = true) (hy : y.cls ≠ "java/lang/invoke/MethodHandle" ∧ y.cls ≠ "java/lang/invoke/VarHandle")
    (hS : S = argsL.reverse ++ rest) (hlen : ∀ sig, parseMethodDescriptor y.desc = some sig → argsL.length = sig.parameters.length) (hsz : Ls.size = ml) (hW : (rest.map fun v => v.category).sum ≤ W) (hK : Pay l R p e below s args Z y 3 W argsL.toArray h kc ks Q)
    (hQ : ∀ v h' L, Q v h' L → Fr n0 L) (hce : cells + kc ≤ R.cells) (hsl : slots + ks ≤ R.slots) {Bs' : Vm → Heap → Prop} (hB : ∀ vm v h' L, Q v h' L → Bs vm h → Bs' vm h') (hp : pc + 3 = pc')
    (K : ∀ v h' L, Q v h' L → Go p l e R s m args below meth c Z own n0 Bs' En h' (cells + kc) (slots + ks) pc' Ls (v.toList ++ rest)) :
    Go p l e R s m args below meth c Z own n0 Bs En h cells slots pc Ls S := fun vm0 T locs hZ hown hBs X hF eT => by
  subst hp hS
  obtain ⟨v, vm1, ⟨T', L', k', n'⟩, -, X', ⟨Lc, hq, l1, y1, z1⟩, st⟩ := Jvm.LawKit.callS X C.1 (y := y) hown (mvT (s := s.setVm vm0) hZ w1) (mvT (s := s.setVm vm0) hZ w2) (mvT (s := s.setVm vm0) hZ w3) (mvT (s := s.setVm vm0) hZ w4) hy (hK vm0 hZ) (g := mkF m pc Ls (argsL.reverse ++ rest)) rfl (by rw [C.2.2.1]; exact hsz) (argsL := argsL) (rest := rest) hlen rfl (by show 2 * 0 + _ ≤ _; omega) (hb C.2.1 hd) (fun _ _ => ⟨rfl, eT, hce, hsl⟩)
  dsimp only [Pt.U, Pt.locs, Pt.cells, Pt.slots] at X' l1 y1 z1 st hq
  subst l1 y1 z1
  obtain ⟨s₂, o, L, k1, k2⟩ := K v T'.heap Lc hq vm0 T' _ hZ hown (hB _ _ _ _ hq hBs) X' (Fr.app hF (hQ _ _ _ hq)) rfl
  exact ⟨s₂, o, L, st _ k1, k2⟩
theorem Go.callV (C : Cx p meth c bytes ml ret) {i : Nat} {C0 : String} {b : Addr} {y z : MethodName} {argsL rest : List Value} {W kc ks : Nat} {Q : Option Value → Heap → List Loc → Prop}
    (hd : decode bytes pc = .ok (.invokevirtual i, 3)) (w1 : (Cond.methodLink own i y).before a0 Z = true) (w2 : (Cond.declares y).before a0 Z = true) (w3 : (Cond.selects C0 y z).before a0 Z = true) (w4 : (Cond.instanceMethod z).before a0 Z = true) (hnf : ∀ st : State, Z.Warmed39 st.vm → NotFace st y) (hy : y.cls ≠ "java/lang/invoke/MethodHandle" ∧ y.cls ≠ "java/lang/invoke/VarHandle") (E : Exa Z h b C0)
    (hS : S = argsL.reverse ++ .ref b :: rest) (hlen : ∀ sig, parseMethodDescriptor y.desc = some sig → argsL.length = sig.parameters.length) (hsz : Ls.size = ml) (hW : (rest.map fun v => v.category).sum ≤ W) (hK : Pay l R p e below s args Z z 3 W (.ref b :: argsL).toArray h kc ks Q)
    (hQ : ∀ v h' L, Q v h' L → Fr n0 L) (hce : cells + kc ≤ R.cells) (hsl : slots + ks ≤ R.slots) {Bs' : Vm → Heap → Prop} (hB : ∀ vm v h' L, Q v h' L → Bs vm h → Bs' vm h') (hp : pc + 3 = pc')
    (K : ∀ v h' L, Q v h' L → Go p l e R s m args below meth c Z own n0 Bs' En h' (cells + kc) (slots + ks) pc' Ls (v.toList ++ rest)) :
    Go p l e R s m args below meth c Z own n0 Bs En h cells slots pc Ls S := fun vm0 T locs hZ hown hBs X hF eT => by
  subst hp hS
  obtain ⟨cq, kq, qa, qb, qc⟩ := isOf (s := s.setVm vm0) hZ eT E
  obtain ⟨v, vm1, ⟨T', L', k', n'⟩, -, X', ⟨Lc, hq, l1, y1, z1⟩, st⟩ := X.virtualBack C.1 (y := y) (z := z) hown (mvT (s := s.setVm vm0) hZ w1) (mvT (s := s.setVm vm0) hZ w2) (hnf (s.setVm vm0) hZ) (mvT (s := s.setVm vm0) hZ w3) (mvT (s := s.setVm vm0) hZ w4) hy (hK vm0 hZ) qa qc (g := mkF m pc Ls (argsL.reverse ++ .ref b :: rest)) rfl (by rw [C.2.2.1]; exact hsz) (Steps.refl _) (argsL := argsL) (rest := rest) hlen rfl (by show 2 * 0 + _ ≤ _; omega) (hb C.2.1 hd) (fun _ _ => ⟨rfl, eT, hce, hsl⟩)
  dsimp only [Pt.U, Pt.locs, Pt.cells, Pt.slots] at X' l1 y1 z1 st hq
  subst l1 y1 z1
  obtain ⟨s₂, o, L, k1, k2⟩ := K v T'.heap Lc hq vm0 T' _ hZ hown (hB _ _ _ _ hq hBs) X' (Fr.app hF (hQ _ _ _ hq)) rfl
  exact ⟨s₂, o, L, st.trans k1, k2⟩
theorem Go.callN (C : Cx p meth c bytes ml ret) {i : Nat} {a : Addr} {y : MethodName} {yb : ByteArray} {yl : Nat} {argsL rest : List Value} {W kc ks : Nat} {Q : Option Value → Heap → List Loc → Prop}
    (hd : decode bytes pc = .ok (.invokespecial i, 3)) (hy1 : y.name = "<init>") (w1 : (Cond.methodLink own i y).before a0 Z = true) (w2 : (Cond.instanceMethod y).before a0 Z = true) (w3 : (Cond.code y yb yl none).before a0 Z = true) (hy : y.cls ≠ "java/lang/invoke/MethodHandle" ∧ y.cls ≠ "java/lang/invoke/VarHandle")
    (hS : S = argsL.reverse ++ .ref a :: rest) (hlen : ∀ sig, parseMethodDescriptor y.desc = some sig → argsL.length = sig.parameters.length) (hsz : Ls.size = ml) (hW : (rest.map fun v => v.category).sum ≤ W) (hK : Pay l R p e below s args Z y 3 W (.ref a :: argsL).toArray h kc ks Q)
    (hQ : ∀ v h' L, Q v h' L → Fr n0 L) (hce : cells + kc ≤ R.cells) (hsl : slots + ks ≤ R.slots) {Bs' : Vm → Heap → Prop} (hB : ∀ vm v h' L, Q v h' L → Bs vm h → Bs' vm h') (hp : pc + 3 = pc')
    (K : ∀ v h' L, Q v h' L → Go p l e R s m args below meth c Z own n0 Bs' En h' (cells + kc) (slots + ks) pc' Ls (v.toList ++ rest)) :
    Go p l e R s m args below meth c Z own n0 Bs En h cells slots pc Ls S := fun vm0 T locs hZ hown hBs X hF eT => by
  subst hp hS
  obtain ⟨v, vm1, ⟨T', L', k', n'⟩, -, X', ⟨Lc, hq, l1, y1, z1⟩, st⟩ := X.specialBack C.1 (y := y) hy1 hown (mvT (s := s.setVm vm0) hZ w1) (mvT (s := s.setVm vm0) hZ w2) (mvT (s := s.setVm vm0) hZ w3) hy (hK vm0 hZ) (g := mkF m pc Ls (argsL.reverse ++ .ref a :: rest)) rfl (by rw [C.2.2.1]; exact hsz) (Steps.refl _) (a := a) (argsL := argsL) (rest := rest) hlen rfl (by show 2 * 0 + _ ≤ _; omega) (hb C.2.1 hd) (fun _ _ => ⟨rfl, eT, hce, hsl⟩)
  dsimp only [Pt.U, Pt.locs, Pt.cells, Pt.slots] at X' l1 y1 z1 st hq
  subst l1 y1 z1
  obtain ⟨s₂, o, L, k1, k2⟩ := K v T'.heap Lc hq vm0 T' _ hZ hown (hB _ _ _ _ hq hBs) X' (Fr.app hF (hQ _ _ _ hq)) rfl
  exact ⟨s₂, o, L, st.trans k1, k2⟩
/-! ### the ends of a walk that interns nothing -/
theorem Go.retI (C : Cx p meth c bytes ml (some .int)) {z : Int32} {Q : Option Value → Heap → Prop} (hd : decode bytes pc = .ok (.ireturn, 1)) (hc : cells ≤ R.cells) (hl : slots ≤ R.slots) (hQ : Q (some (.int z)) h) : Go p l e R s m args below meth c Z own n0 (Bn s) (EnN s R n0 Q) h cells slots pc Ls (.int z :: S) := fun vm0 T locs hZ hown hB X hF eT => by
  obtain rfl : vm0 = s.vm := hB
  obtain ⟨fs, hr, hrun, hended, hW, hsame⟩ := X.leave (v := some (.int z)) (fun q => by rw [C.2.2.2.1] at q; cases q) C.2.2.2.2
  exact ⟨_, _, locs, Jvm.RoadKit.retOut X C.1 C.2.2.2.1 rfl (Or.inl ⟨rfl, Or.inl rfl, _, rfl⟩) (hb C.2.1 hd) hr, hrun, hended, _, rfl, ⟨by subst eT; exact hQ, hF⟩, ⟨_, rfl⟩, hW, hsame.mono hc hl⟩
theorem Go.retN {t : FieldType} (C : Cx p meth c bytes ml (some t)) (ht : t = .boolean ∨ t = .byte ∨ t = .char ∨ t = .short) {z : Int32} {Q : Option Value → Heap → Prop} (hd : decode bytes pc = .ok (.ireturn, 1)) (hc : cells ≤ R.cells) (hl : slots ≤ R.slots) (hQ : Q (some (.int (nar t z))) h) : Go p l e R s m args below meth c Z own n0 (Bn s) (EnN s R n0 Q) h cells slots pc Ls (.int z :: S) := fun vm0 T locs hZ hown hB X hF eT => by
  obtain rfl : vm0 = s.vm := hB
  obtain ⟨fs, hr, hrun, hended, hW, hsame⟩ := X.leave (v := some (.int (nar t z))) (fun q => by rw [C.2.2.2.1] at q; cases q) C.2.2.2.2
  exact ⟨_, _, locs, Jvm.RoadKit.retN X C.1 C.2.2.2.1 ht (hb C.2.1 hd) hr, hrun, hended, _, rfl, ⟨by subst eT; exact hQ, hF⟩, ⟨_, rfl⟩, hW, hsame.mono hc hl⟩
theorem Go.retA {t : FieldType} (C : Cx p meth c bytes ml (some t)) (ht : t.isReference = true) {v : Value} {Q : Option Value → Heap → Prop} (hd : decode bytes pc = .ok (.areturn, 1)) (hv : v.isRef = true) (hc : cells ≤ R.cells) (hl : slots ≤ R.slots) (hQ : Q (some v) h) : Go p l e R s m args below meth c Z own n0 (Bn s) (EnN s R n0 Q) h cells slots pc Ls (v :: S) := fun vm0 T locs hZ hown hB X hF eT => by
  obtain rfl : vm0 = s.vm := hB
  obtain ⟨fs, hr, hrun, hended, hW, hsame⟩ := X.leave (v := some v) (fun q => by rw [C.2.2.2.1] at q; cases q) C.2.2.2.2
  have hn : narrow t v = v := by cases v <;> simp [Value.isRef] at hv <;> cases t <;> simp [FieldType.isReference] at ht <;> rfl
  exact ⟨_, _, locs, Jvm.RoadKit.retOut X C.1 C.2.2.2.1 hn (Or.inr (Or.inr (Or.inr (Or.inr ⟨rfl, ht, hv⟩)))) (hb C.2.1 hd) hr, hrun, hended, _, rfl, ⟨by subst eT; exact hQ, hF⟩, ⟨_, rfl⟩, hW, hsame.mono hc hl⟩
theorem Go.retL (C : Cx p meth c bytes ml (some .long)) {z : Int64} {Q : Option Value → Heap → Prop} (hd : decode bytes pc = .ok (.lreturn, 1)) (hc : cells ≤ R.cells) (hl : slots ≤ R.slots) (hQ : Q (some (.long z)) h) : Go p l e R s m args below meth c Z own n0 (Bn s) (EnN s R n0 Q) h cells slots pc Ls (.long z :: S) := fun vm0 T locs hZ hown hB X hF eT => by
  obtain rfl : vm0 = s.vm := hB
  obtain ⟨fs, hr, hrun, hended, hW, hsame⟩ := X.leave (v := some (.long z)) (fun q => by rw [C.2.2.2.1] at q; cases q) C.2.2.2.2
  exact ⟨_, _, locs, Jvm.RoadKit.retOut X C.1 C.2.2.2.1 rfl (Or.inr (Or.inl ⟨rfl, rfl, _, rfl⟩)) (hb C.2.1 hd) hr, hrun, hended, _, rfl, ⟨by subst eT; exact hQ, hF⟩, ⟨_, rfl⟩, hW, hsame.mono hc hl⟩
theorem Go.retD (C : Cx p meth c bytes ml (some .double)) {z : UInt64} {Q : Option Value → Heap → Prop} (hd : decode bytes pc = .ok (.dreturn, 1)) (hc : cells ≤ R.cells) (hl : slots ≤ R.slots) (hQ : Q (some (.double z)) h) : Go p l e R s m args below meth c Z own n0 (Bn s) (EnN s R n0 Q) h cells slots pc Ls (.double z :: S) := fun vm0 T locs hZ hown hB X hF eT => by
  obtain rfl : vm0 = s.vm := hB
  obtain ⟨fs, hr, hrun, hended, hW, hsame⟩ := X.leave (v := some (.double z)) (fun q => by rw [C.2.2.2.1] at q; cases q) C.2.2.2.2
  exact ⟨_, _, locs, Jvm.RoadKit.retOut X C.1 C.2.2.2.1 rfl (Or.inr (Or.inr (Or.inl ⟨rfl, rfl, _, rfl⟩))) (hb C.2.1 hd) hr, hrun, hended, _, rfl, ⟨by subst eT; exact hQ, hF⟩, ⟨_, rfl⟩, hW, hsame.mono hc hl⟩
theorem Go.retV (C : Cx p meth c bytes ml none) {Q : Option Value → Heap → Prop} (hd : decode bytes pc = .ok (.return_, 1)) (hc : cells ≤ R.cells) (hl : slots ≤ R.slots) (hQ : Q none h) : Go p l e R s m args below meth c Z own n0 (Bn s) (EnN s R n0 Q) h cells slots pc Ls [] := fun vm0 T locs hZ hown hB X hF eT => by
  obtain rfl : vm0 = s.vm := hB
  obtain ⟨fs, hr, hrun, hended, hW, hsame⟩ := X.leave (v := none) (fun q => rfl) C.2.2.2.2
  exact ⟨_, _, locs, X.returnOut C.1 C.2.2.2.1 (hb C.2.1 hd) hr, hrun, hended, _, rfl, ⟨by subst eT; exact hQ, hF⟩, ⟨_, rfl⟩, hW, hsame.mono hc hl⟩
/-! ### arrays by what they hold -/
theorem Go.newPV (C : Cx p meth c bytes ml ret) {Bs' : Vm → Heap → Prop} (hE : ∀ vm h', Ext h h' → h.size < h'.size → Bs vm h → Bs' vm h') {aty : ArrayType} {n : Int32} (hd : decode bytes pc = .ok (.newarray aty, 2)) (w : (Cond.arrayClass (newarray.typeOf aty)).before a0 Z = true) (hn : ¬ n < 0) {cap : Nat} (hcap : n.toNatClampNeg ≤ cap) (hb8 : cap * 8 ≤ 536870912) (hc : cells + 1 ≤ R.cells) (hl : slots + cap ≤ R.slots) (hp : pc + 2 = pc') {dv : Value} (hdv : defaultValue (newarray.typeOf aty) = dv)
    (K : ∀ h' cA, Ext h h' → Arv Z h' h.size cA (newarray.typeOf aty) n (List.replicate cap dv) dv → Go p l e R s m args below meth c Z own n0 Bs' En h' (cells + 1) (slots + cap) pc' Ls (.ref h.size :: S)) :
    Go p l e R s m args below meth c Z own n0 Bs En h cells slots pc Ls (.int n :: S) :=
  Go.newP C hE hd w hn hcap hb8 hc hl hp fun h' cA E A => K h' cA E (by subst hdv; simpa using (Arv.new A hn).pad (pad_rep [] _ cap))
theorem arv_in {a : Addr} {k : ClassId} {ty : FieldType} {z j : Int32} {vs : List Value} {dv : Value} (V : Arv Z h a k ty z vs dv) (h0 : ¬ j < 0) (hz : j < z) : ∃ cl, Arr Z h a cl ty ∧ ¬ (j < 0 ∨ cl.slots.size ≤ j.toNatClampNeg) ∧ cl.slots[j.toNatClampNeg]? = some (vs.getD j.toNatClampNeg dv) := by
  obtain ⟨cl, A, q, S, M, H, U⟩ := V
  have hin := inb_of S ⟨h0, hz⟩
  exact ⟨cl, A, hin, H.at hin rfl⟩
theorem Go.castoreV (C : Cx p meth c bytes ml ret) {a : Addr} {k : ClassId} {z j x : Int32} {vs : List Value} {dv : Value} (hd : decode bytes pc = .ok (.castore, 1)) (V : Arv Z h a k .char z vs dv) (h0 : ¬ j < 0) (hz : j < z) (i : Nat) (hji : j.toNatClampNeg = i) (hi : i < vs.length) (hn : n0 ≤ a) (hB : ∀ vm h', Wr h h' a j.toNatClampNeg (.int (nar .char x)) → Bs vm h → Bs vm h') (hp : pc + 1 = pc')
    (K : ∀ h', Wr h h' a j.toNatClampNeg (.int (nar .char x)) → Arv Z h' a k .char z (vs.set i (.int (nar .char x))) dv → Go p l e R s m args below meth c Z own n0 Bs En h' cells slots pc' Ls S) :
    Go p l e R s m args below meth c Z own n0 Bs En h cells slots pc Ls (.int x :: .int j :: .ref a :: S) := by
  obtain ⟨cl, A, q, S1, M, H, U⟩ := V
  exact Go.castore C hd A (inb_of S1 ⟨h0, hz⟩) hn hB hp fun h' W => K h' W (Arv.set A q S1 M H U (fits_nar_char _) W i hji hi)
theorem Go.bastoreV (C : Cx p meth c bytes ml ret) {a : Addr} {k : ClassId} {z j x : Int32} {vs : List Value} {dv : Value} (hd : decode bytes pc = .ok (.bastore, 1)) (V : Arv Z h a k .byte z vs dv) (h0 : ¬ j < 0) (hz : j < z) (i : Nat) (hji : j.toNatClampNeg = i) (hi : i < vs.length) (hn : n0 ≤ a) (hB : ∀ vm h', Wr h h' a j.toNatClampNeg (.int (nar .byte x)) → Bs vm h → Bs vm h') (hp : pc + 1 = pc')
    (K : ∀ h', Wr h h' a j.toNatClampNeg (.int (nar .byte x)) → Arv Z h' a k .byte z (vs.set i (.int (nar .byte x))) dv → Go p l e R s m args below meth c Z own n0 Bs En h' cells slots pc' Ls S) :
    Go p l e R s m args below meth c Z own n0 Bs En h cells slots pc Ls (.int x :: .int j :: .ref a :: S) := by
  obtain ⟨cl, A, q, S1, M, H, U⟩ := V
  exact Go.bastore C hd A (inb_of S1 ⟨h0, hz⟩) hn hB hp fun h' W => K h' W (Arv.set A q S1 M H U (fits_nar_byte _) W i hji hi)
theorem Go.baloadV (C : Cx p meth c bytes ml ret) {a : Addr} {k : ClassId} {z j : Int32} {vs : List Value} {dv v : Value} (hd : decode bytes pc = .ok (.baload, 1)) (V : Arv Z h a k .byte z vs dv) (h0 : ¬ j < 0) (hz : j < z) (hv : vs.getD j.toNatClampNeg dv = v) (hp : pc + 1 = pc')
    (K : Go p l e R s m args below meth c Z own n0 Bs En h cells slots pc' Ls (v :: S)) : Go p l e R s m args below meth c Z own n0 Bs En h cells slots pc Ls (.int j :: .ref a :: S) := by
  obtain ⟨cl, A, hin, q⟩ := arv_in V h0 hz
  exact Go.baload C hd A hin (hv ▸ q) hp K
theorem Go.caloadV (C : Cx p meth c bytes ml ret) {a : Addr} {k : ClassId} {z j : Int32} {vs : List Value} {dv v : Value} (hd : decode bytes pc = .ok (.caload, 1)) (V : Arv Z h a k .char z vs dv) (h0 : ¬ j < 0) (hz : j < z) (hv : vs.getD j.toNatClampNeg dv = v) (hp : pc + 1 = pc')
    (K : Go p l e R s m args below meth c Z own n0 Bs En h cells slots pc' Ls (v :: S)) : Go p l e R s m args below meth c Z own n0 Bs En h cells slots pc Ls (.int j :: .ref a :: S) := by
  obtain ⟨cl, A, hin, q⟩ := arv_in V h0 hz
  exact Go.caload C hd A hin (hv ▸ q) hp K
theorem Go.arraylengthV (C : Cx p meth c bytes ml ret) {a : Addr} {k : ClassId} {ty : FieldType} {z : Int32} {vs : List Value} {dv : Value} (hd : decode bytes pc = .ok (.arraylength, 1)) (V : Arv Z h a k ty z vs dv) (hp : pc + 1 = pc')
    (K : Go p l e R s m args below meth c Z own n0 Bs En h cells slots pc' Ls (.int z :: S)) : Go p l e R s m args below meth c Z own n0 Bs En h cells slots pc Ls (.ref a :: S) := by
  obtain ⟨cl, A, q, S1, M, H, U⟩ := V
  exact Go.arraylength C hd A (len_of S1 M) hp K
end Heaps
end Jvm.Own

/- laws to paste: Road.backV (cut by pick.py; bodies as the Statement names them) -/
namespace Jvm.Pilot.@@N@@
namespace StrChars
open Jvm Sem ClassFile Op Lib Jvm.Stand Jvm.Free.XT Jvm.Free.ALB Jvm.Free.JM Jvm.Free
open Jvm.Lib.Cold (StaticIs)
/-- a char array whose places are chars -/
def Ch (a : Addr) (A : Cell) (U : State) : Prop := Arr .char a A U ∧ Typed .char A
theorem Ch.mv {a : Addr} {A : Cell} {U U' : State} (h : Ch a A U) (hal : U.vm.Alike U'.vm) (hh : U'.heap = U.heap) : Ch a A U' := ⟨h.1.mv hal hh, h.2⟩
theorem Ch.keep {a : Addr} {A : Cell} {U U' : State} (h : Ch a A U) (hal : U.vm.Alike U'.vm) (hk : U'.heap[a]? = some A) : Ch a A U' := ⟨h.1.keep hal hk, h.2⟩
/-- what place i of a char[]'s cell holds -/
def cv (A : Cell) (i : Nat) : Int32 := match A.slots[i]? with | some (.int x) => x | _ => 0
theorem Ch.get {a : Addr} {A : Cell} {U : State} (h : Ch a A U) {i : Nat} (hi : i < A.slots.size) : A.slots[i]? = some (.int (cv A i)) := by
  have e := Array.getElem?_eq_getElem hi
  have f := h.2 i _ e
  unfold cv; rw [e]
  generalize A.slots[i] = v at f
  cases v <;> simp [fits] at f ⊢
/-- the byte that i2b leaves of a char -/
def lo8 (x : Int32) : Int32 := x.toInt8.toInt32
theorem fits_lo8 (y : Int32) : fits .byte (.int (lo8 y)) = true := by
  have h1 := y.toInt8.le_toInt
  have h2 := y.toInt8.toInt_lt
  simp only [lo8, fits, Bool.and_eq_true, decide_eq_true_eq, Int32.le_iff_toInt_le, Int8.toInt_toInt32, show (-128 : Int32).toInt = -128 from by decide, show (127 : Int32).toInt = 127 from by decide]
  omega
/-- A' is A but that each place j of lo .. hi - 1 holds f j -/
def Laid (A A' : Cell) (lo hi : Nat) (f : Nat → Value) : Prop := A'.cls = A.cls ∧ A'.vm = A.vm ∧ A'.slots.size = A.slots.size ∧ ∀ i, A'.slots[i]? = if lo ≤ i ∧ i < hi then some (f i) else A.slots[i]?
theorem Laid.zero (A : Cell) (lo : Nat) (f : Nat → Value) : Laid A A lo (lo + 0) f := ⟨rfl, rfl, rfl, fun i => by rw [if_neg (by omega)]⟩
theorem Laid.step {A Ak : Cell} {lo k : Nat} {f : Nat → Value} {v : Value} (h : Laid A Ak lo k f) (hlo : lo ≤ k) (hk : k < Ak.slots.size) (hv : v = f k) : Laid A (Ak.setSlot k v) lo (k + 1) f := by
  refine ⟨h.1, h.2.1, by simpa [Cell.setSlot] using h.2.2.1, fun i => ?_⟩
  by_cases e : k = i
  · subst e; rw [Cell.slots_setSlot_self v hk, if_pos (by omega), hv]
  · rw [Cell.slots_setSlot_ne v e, h.2.2.2 i]
    by_cases q : lo ≤ i ∧ i < k
    · rw [if_pos q, if_pos (by omega)]
    · rw [if_neg q, if_neg (by omega)]
def U16 : String := "java/lang/StringUTF16"
namespace Cmp5
def yN : MethodName := ⟨"java/lang/StringUTF16", "compress", "([CI[BII)I"⟩
abbrev yB : ByteArray := jdk_52_method_21_code
theorem d0 : decode yB 0 = .ok (.iconst 0, 1) := by decide +kernel
theorem d1 : decode yB 1 = .ok (.istore 5, 2) := by decide +kernel
theorem d3 : decode yB 3 = .ok (.iload 5, 2) := by decide +kernel
theorem d5 : decode yB 5 = .ok (.iload 4, 2) := by decide +kernel
theorem d7 : decode yB 7 = .ok (.if_icmp (.ge) 37, 3) := by decide +kernel
theorem d10 : decode yB 10 = .ok (.aload_n 0, 1) := by decide +kernel
theorem d11 : decode yB 11 = .ok (.iload_n 1, 1) := by decide +kernel
theorem d12 : decode yB 12 = .ok (.caload, 1) := by decide +kernel
theorem d13 : decode yB 13 = .ok (.istore 6, 2) := by decide +kernel
theorem d15 : decode yB 15 = .ok (.iload 6, 2) := by decide +kernel
theorem d17 : decode yB 17 = .ok (.sipush 255, 3) := by decide +kernel
theorem d20 : decode yB 20 = .ok (.if_icmp (.le) 6, 3) := by decide +kernel
theorem d26 : decode yB 26 = .ok (.aload_n 2, 1) := by decide +kernel
theorem d27 : decode yB 27 = .ok (.iload_n 3, 1) := by decide +kernel
theorem d28 : decode yB 28 = .ok (.iload 6, 2) := by decide +kernel
theorem d30 : decode yB 30 = .ok (.i2b, 1) := by decide +kernel
theorem d31 : decode yB 31 = .ok (.bastore, 1) := by decide +kernel
theorem d32 : decode yB 32 = .ok (.iinc 1 1, 3) := by decide +kernel
theorem d35 : decode yB 35 = .ok (.iinc 3 1, 3) := by decide +kernel
theorem d38 : decode yB 38 = .ok (.iinc 5 1, 3) := by decide +kernel
theorem d41 : decode yB 41 = .ok (.goto (-38), 3) := by decide +kernel
theorem d44 : decode yB 44 = .ok (.iload 4, 2) := by decide +kernel
theorem d46 : decode yB 46 = .ok (.ireturn, 1) := by decide +kernel
def site : List Cond := []
def tab : Cond := tabOf yN yB 7 (some .int) site
def P (b : Addr) (A : Cell) (d : Addr) (B : Cell) (o q len : Nat) (args : Array Value) (s : State) : Prop := args = #[.ref b, .int (Int32.ofNat o), .ref d, .int (Int32.ofNat q), .int (Int32.ofNat len)] ∧ Ch b A s ∧ Arr .byte d B s ∧ b ≠ d ∧ o + len ≤ A.slots.size ∧ q + len ≤ B.slots.size ∧ ∀ i, i < len → ¬ 255 < cv A (o + i)
def E (b : Addr) (A : Cell) (d : Addr) (B : Cell) (o q len : Nat) (r : Option Value) (s u : State) : Prop := r = some (.int (Int32.ofNat len)) ∧ ∃ B', Put d B' s u ∧ Laid B B' q (q + len) (fun j => Value.int (lo8 (cv A (o + (j - q)))))
/-- no char of the range above 255: len; the places written hold each char's low byte -/
theorem law (l : Launch) (b : Addr) (A : Cell) (d : Addr) (B : Cell) (o q len : Nat) : Law l yN 5 5 0 0 yB 7 (some .int) site (P b A d B o q len) (E b A d B o q len) (copyLocs d q len) 0 0 := by
  refine Law.of_walk (plainFor_of_name (by decide +kernel)) (by decide +kernel) (by decide +kernel) (by decide) (fun _ _ h => by rw [h.1]; rfl) (fun _ U U' hal hh h => ⟨h.1, h.2.1.mv hal hh, h.2.2.1.mv hal hh, h.2.2.2⟩) (fun r U U' V V' h1 hal h2 h => ⟨h.1, h.2.elim fun B' q => ⟨B', q.1.mv h1 h2, q.2⟩⟩) ?_
  intro p e s m args below meth c s₁ X0 hexec hbytes hml hret hlk hnm hown hh0 W hP
  obtain ⟨rfl, hA, hB, hne, l1, l2, hp⟩ := hP
  have c1 : Steps p.tables e below (s₁.setTop (entryFrame m #[.ref b, .int (Int32.ofNat o), .ref d, .int (Int32.ofNat q), .int (Int32.ofNat len)] 7)) (s₁.setTop (mkF m 0 #[.val (.ref b), .val (.int (Int32.ofNat o)), .val (.ref d), .val (.int (Int32.ofNat q)), .val (.int (Int32.ofNat len)), .unset, .unset] [])) := entry rfl
  have hA0 := hA.1.mv X0.warmed.alike hh0
  have hB0 := hB.mv X0.warmed.alike hh0
  have a31 := hA.1.2.2.2
  have c2 : Steps p.tables e below (s₁.setTop (entryFrame m #[.ref b, .int (Int32.ofNat o), .ref d, .int (Int32.ofNat q), .int (Int32.ofNat len)] 7)) (s₁.setTop (mkF m 3 #[.val (.ref b), .val (.int (Int32.ofNat o)), .val (.ref d), .val (.int (Int32.ofNat q)), .val (.int (Int32.ofNat len)), .val (.int 0), .unset] [])) := c1.trans (by
    refine iconstV X0.here hexec rfl 0 (hb hbytes d0) (by decide) ?_
    refine XS.istore X0.here hexec rfl (hb hbytes d1) rfl rfl ?_
    exact Steps.refl _)
  have loop : ∀ (r i : Nat), i + r = len → ∀ (z : Slot), (z = .unset ∨ ∃ w, z = .val w ∧ w.category = 1) → ∀ (Tl : State) (Bk : Cell), Stand p l e { frames := 0, locals := 0, cells := 0, slots := 0 } s m #[.ref b, .int (Int32.ofNat o), .ref d, .int (Int32.ofNat q), .int (Int32.ofNat len)] below meth c Tl ([] ++ copyLocs d q i) 0 0 → Put d Bk s₁ Tl → Laid B Bk q (q + i) (fun j => Value.int (lo8 (cv A (o + (j - q))))) →
      Steps p.tables e below (s₁.setTop (entryFrame m #[.ref b, .int (Int32.ofNat o), .ref d, .int (Int32.ofNat q), .int (Int32.ofNat len)] 7)) (Tl.setTop (mkF m 3 #[.val (.ref b), .val (.int (Int32.ofNat (o + i))), .val (.ref d), .val (.int (Int32.ofNat (q + i))), .val (.int (Int32.ofNat len)), .val (.int (Int32.ofNat i)), z] [])) → ∃ (T' : State) (B' : Cell) (z' : Slot), Stand p l e { frames := 0, locals := 0, cells := 0, slots := 0 } s m #[.ref b, .int (Int32.ofNat o), .ref d, .int (Int32.ofNat q), .int (Int32.ofNat len)] below meth c T' ([] ++ copyLocs d q len) 0 0 ∧ Put d B' s₁ T' ∧ Laid B B' q (q + len) (fun j => Value.int (lo8 (cv A (o + (j - q))))) ∧
      Steps p.tables e below (s₁.setTop (entryFrame m #[.ref b, .int (Int32.ofNat o), .ref d, .int (Int32.ofNat q), .int (Int32.ofNat len)] 7)) (T'.setTop (mkF m 3 #[.val (.ref b), .val (.int (Int32.ofNat (o + len))), .val (.ref d), .val (.int (Int32.ofNat (q + len))), .val (.int (Int32.ofNat len)), .val (.int (Int32.ofNat len)), z'] [])) := by
    intro r
    induction r with
    | zero =>
      intro i hi z hz Tl Bk Xl pl fl cl
      have hil : i = len := by omega
      rw [hil] at Xl fl cl
      exact ⟨Tl, Bk, z, Xl, pl, fl, cl⟩
    | succ r ih =>
      intro i hi z hz Tl Bk Xl pl fl cl
      have all := X0.warmed.alike.symm.trans Xl.warmed.alike
      have hAl := hA0.keep all (pl.other hne hA0.1)
      have hBk := hB0.like all pl.1 fl.1 fl.2.1 fl.2.2.1
      have hlt : q + i < Bk.slots.size := by rw [fl.2.2.1]; omega
      have c3 : Steps p.tables e below (s₁.setTop (entryFrame m #[.ref b, .int (Int32.ofNat o), .ref d, .int (Int32.ofNat q), .int (Int32.ofNat len)] 7)) (Tl.setTop (mkF m 12 #[.val (.ref b), .val (.int (Int32.ofNat (o + i))), .val (.ref d), .val (.int (Int32.ofNat (q + i))), .val (.int (Int32.ofNat len)), .val (.int (Int32.ofNat i)), z] [.int (Int32.ofNat (o + i)), .ref b])) := cl.trans (by
        refine XS.iload Xl.here hexec rfl (hb hbytes d3) rfl ?_
        refine XS.iload Xl.here hexec rfl (hb hbytes d5) rfl ?_
        refine XS.icmpNo Xl.here hexec rfl (hb hbytes d7) rfl (ii_ge_f (lt32 (by omega) (by omega))) ?_
        refine XS.aloadN Xl.here hexec rfl (hb hbytes d10) rfl rfl ?_
        refine XS.iloadN Xl.here hexec rfl (hb hbytes d11) rfl ?_
        exact Steps.refl _)
      have c4 : Steps p.tables e below (s₁.setTop (entryFrame m #[.ref b, .int (Int32.ofNat o), .ref d, .int (Int32.ofNat q), .int (Int32.ofNat len)] 7)) (Tl.setTop (mkF m 13 #[.val (.ref b), .val (.int (Int32.ofNat (o + i))), .val (.ref d), .val (.int (Int32.ofNat (q + i))), .val (.int (Int32.ofNat len)), .val (.int (Int32.ofNat i)), z] [.int (cv A (o + i))])) := c3.trans (by
        refine Xl.aget hexec hAl rfl (hA.get (i := o + i) (by omega)) rfl rfl (hb hbytes d12) ?_
        exact Steps.refl _)
      have c5 : Steps p.tables e below (s₁.setTop (entryFrame m #[.ref b, .int (Int32.ofNat o), .ref d, .int (Int32.ofNat q), .int (Int32.ofNat len)] 7)) (Tl.setTop (mkF m 15 #[.val (.ref b), .val (.int (Int32.ofNat (o + i))), .val (.ref d), .val (.int (Int32.ofNat (q + i))), .val (.int (Int32.ofNat len)), .val (.int (Int32.ofNat i)), .val (.int (cv A (o + i)))] [])) := c4.trans (by
        refine XS.istoreS Xl.here hexec rfl (hb hbytes d13) rfl rfl hz ?_
        exact Steps.refl _)
      have c6 : Steps p.tables e below (s₁.setTop (entryFrame m #[.ref b, .int (Int32.ofNat o), .ref d, .int (Int32.ofNat q), .int (Int32.ofNat len)] 7)) (Tl.setTop (mkF m 31 #[.val (.ref b), .val (.int (Int32.ofNat (o + i))), .val (.ref d), .val (.int (Int32.ofNat (q + i))), .val (.int (Int32.ofNat len)), .val (.int (Int32.ofNat i)), .val (.int (cv A (o + i)))] [.int (lo8 (cv A (o + i))), .int (Int32.ofNat (q + i)), .ref d])) := c5.trans (by
        refine XS.iload Xl.here hexec rfl (hb hbytes d15) rfl ?_
        refine sipushV Xl.here hexec rfl 255 (hb hbytes d17) (by decide) ?_
        refine XS.icmpYes Xl.here hexec rfl (pc0 := 20) rfl (hb hbytes d20) rfl (ii_le_t (hp i (by omega))) (by decide) rfl ?_
        refine XS.aloadN Xl.here hexec rfl (hb hbytes d26) rfl rfl ?_
        refine XS.iloadN Xl.here hexec rfl (hb hbytes d27) rfl ?_
        refine XS.iload Xl.here hexec rfl (hb hbytes d28) rfl ?_
        refine i2b Xl.here hexec rfl (hb hbytes d30) rfl ?_
        exact Steps.refl _)
      obtain ⟨T7, X7, p7, st7⟩ := Xl.aput hexec hBk rfl hlt rfl (fits_lo8 (cv A (o + i))) (g := (mkF m 31 #[.val (.ref b), .val (.int (Int32.ofNat (o + i))), .val (.ref d), .val (.int (Int32.ofNat (q + i))), .val (.int (Int32.ofNat len)), .val (.int (Int32.ofNat i)), .val (.int (cv A (o + i)))] [.int (lo8 (cv A (o + i))), .int (Int32.ofNat (q + i)), .ref d])) rfl (rest := []) rfl (hb hbytes d31)
      have c8 : Steps p.tables e below (s₁.setTop (entryFrame m #[.ref b, .int (Int32.ofNat o), .ref d, .int (Int32.ofNat q), .int (Int32.ofNat len)] 7)) (T7.setTop (mkF m 32 #[.val (.ref b), .val (.int (Int32.ofNat (o + i))), .val (.ref d), .val (.int (Int32.ofNat (q + i))), .val (.int (Int32.ofNat len)), .val (.int (Int32.ofNat i)), .val (.int (cv A (o + i)))] [])) := c6.trans (st7 _ (Steps.refl _))
      have c9 : Steps p.tables e below (s₁.setTop (entryFrame m #[.ref b, .int (Int32.ofNat o), .ref d, .int (Int32.ofNat q), .int (Int32.ofNat len)] 7)) (T7.setTop (mkF m 3 #[.val (.ref b), .val (.int (Int32.ofNat (o + i) + 1)), .val (.ref d), .val (.int (Int32.ofNat (q + i) + 1)), .val (.int (Int32.ofNat len)), .val (.int (Int32.ofNat i + 1)), .val (.int (cv A (o + i)))] [])) := c8.trans (by
        refine iincV X7.here hexec rfl 1 (hb hbytes d32) (by decide) rfl rfl ?_
        refine iincV X7.here hexec rfl 1 (hb hbytes d35) (by decide) rfl rfl ?_
        refine iincV X7.here hexec rfl 1 (hb hbytes d38) (by decide) rfl rfl ?_
        refine XS.goto X7.here hexec rfl (pc0 := 41) rfl (hb hbytes d41) (by decide) rfl ?_
        exact Steps.refl _)
      have c10 : Steps p.tables e below (s₁.setTop (entryFrame m #[.ref b, .int (Int32.ofNat o), .ref d, .int (Int32.ofNat q), .int (Int32.ofNat len)] 7)) (T7.setTop (mkF m 3 #[.val (.ref b), .val (.int (Int32.ofNat (o + (i + 1)))), .val (.ref d), .val (.int (Int32.ofNat (q + (i + 1)))), .val (.int (Int32.ofNat len)), .val (.int (Int32.ofNat (i + 1))), .val (.int (cv A (o + i)))] [])) := by
        have := c9
        rw [succ32, succ32, succ32] at this
        exact this
      exact ih (i + 1) (by omega) _ (Or.inr ⟨_, rfl, rfl⟩) T7 _ (by rw [copyLocs_step, ← List.append_assoc]; exact X7) (pl.trans p7) (fl.step (by omega) hlt (by simp)) c10
  obtain ⟨T9, B9, z9, X9, p9, f9, g9⟩ := loop len 0 (by omega) .unset (Or.inl rfl) s₁ B (by simpa [copyLocs] using X0) ⟨hB0.1, fun _ _ => rfl, rfl⟩ (Laid.zero _ _ _) c2
  have c11 : Steps p.tables e below (s₁.setTop (entryFrame m #[.ref b, .int (Int32.ofNat o), .ref d, .int (Int32.ofNat q), .int (Int32.ofNat len)] 7)) (T9.setTop (mkF m 46 #[.val (.ref b), .val (.int (Int32.ofNat (o + len))), .val (.ref d), .val (.int (Int32.ofNat (q + len))), .val (.int (Int32.ofNat len)), .val (.int (Int32.ofNat len)), z9] [.int (Int32.ofNat len)])) := g9.trans (by
    refine XS.iload X9.here hexec rfl (hb hbytes d3) rfl ?_
    refine XS.iload X9.here hexec rfl (hb hbytes d5) rfl ?_
    refine XS.icmpYes X9.here hexec rfl (pc0 := 7) rfl (hb hbytes d7) rfl (ii_ge_t (nlt32 (by omega) (Nat.le_refl _))) (by decide) rfl ?_
    refine XS.iload X9.here hexec rfl (hb hbytes d44) rfl ?_
    exact Steps.refl _)
  exact ⟨T9, some (.int (Int32.ofNat len)), _, _, _, X9, by simp, rfl, rfl, (fun h => by cases h), ⟨rfl, B9, p9.from hh0, f9⟩, fun fs hl => c11.trans (X9.ireturnOut hexec hret rfl (Or.inl rfl) (hb hbytes d46) hl)⟩
end Cmp5
namespace Cmp3
def yN : MethodName := ⟨"java/lang/StringUTF16", "compress", "([CII)[B"⟩
abbrev yB : ByteArray := jdk_52_method_16_code
theorem d0 : decode yB 0 = .ok (.iload_n 2, 1) := by decide +kernel
theorem d1 : decode yB 1 = .ok (.newarray .byte, 2) := by decide +kernel
theorem d3 : decode yB 3 = .ok (.astore_n 3, 1) := by decide +kernel
theorem d4 : decode yB 4 = .ok (.aload_n 0, 1) := by decide +kernel
theorem d5 : decode yB 5 = .ok (.iload_n 1, 1) := by decide +kernel
theorem d6 : decode yB 6 = .ok (.aload_n 3, 1) := by decide +kernel
theorem d7 : decode yB 7 = .ok (.iconst 0, 1) := by decide +kernel
theorem d8 : decode yB 8 = .ok (.iload_n 2, 1) := by decide +kernel
theorem d9 : decode yB 9 = .ok (.invokestatic 115, 3) := by decide +kernel
theorem d12 : decode yB 12 = .ok (.istore 4, 2) := by decide +kernel
theorem d14 : decode yB 14 = .ok (.iload 4, 2) := by decide +kernel
theorem d16 : decode yB 16 = .ok (.iload_n 2, 1) := by decide +kernel
theorem d17 : decode yB 17 = .ok (.if_icmp (.eq) 40, 3) := by decide +kernel
theorem d57 : decode yB 57 = .ok (.aload_n 3, 1) := by decide +kernel
theorem d58 : decode yB 58 = .ok (.areturn, 1) := by decide +kernel
def site : List Cond := [.arrayClass .byte, Cmp5.tab] ++ staticW U16 115 Cmp5.yN
def tab : Cond := tabOf yN yB 6 (some (.array .byte)) site
def P (b : Addr) (A : Cell) (o len : Nat) (args : Array Value) (s : State) : Prop := args = #[.ref b, .int (Int32.ofNat o), .int (Int32.ofNat len)] ∧ Ch b A s ∧ o + len ≤ A.slots.size ∧ len ≤ 536870912 ∧ ∀ i, i < len → ¬ 255 < cv A (o + i)
def E (b : Addr) (A : Cell) (o len : Nat) (r : Option Value) (s u : State) : Prop := NewArr .byte "[B" len (fun j => .int (lo8 (cv A (o + j)))) r s u ∧ u.heap.size = s.heap.size + 1
/-- no char of the range above 255: a new byte[] of their low bytes -/
theorem law (l : Launch) (b : Addr) (A : Cell) (o len : Nat) : Law l yN 3 3 1 18 yB 6 (some (.array .byte)) site (P b A o len) (E b A o len) [] 1 len := by
  refine Law.of_walk (plainFor_of_name (by decide +kernel)) (by decide +kernel) (by decide +kernel) (by decide) (fun _ _ h => by rw [h.1]; rfl) (fun _ U U' hal hh h => ⟨h.1, h.2.1.mv hal hh, h.2.2⟩) (fun r U U' V V' h1 hal h2 h => ⟨NewArr.mv r U U' V V' h1 hal h2 h.1, by rw [h1, h2]; exact h.2⟩) ?_
  intro p e s m args below meth c s₁ X0 hexec hbytes hml hret hlk hnm hown hh0 W hP
  obtain ⟨rfl, hA, l1, l2, hp⟩ := hP
  have a31 := hA.1.2.2.2
  have c1 : Steps p.tables e below (s₁.setTop (entryFrame m #[.ref b, .int (Int32.ofNat o), .int (Int32.ofNat len)] 6)) (s₁.setTop (mkF m 0 #[.val (.ref b), .val (.int (Int32.ofNat o)), .val (.int (Int32.ofNat len)), .unset, .unset, .unset] [])) := entry rfl
  have c2 : Steps p.tables e below (s₁.setTop (entryFrame m #[.ref b, .int (Int32.ofNat o), .int (Int32.ofNat len)] 6)) (s₁.setTop (mkF m 1 #[.val (.ref b), .val (.int (Int32.ofNat o)), .val (.int (Int32.ofNat len)), .unset, .unset, .unset] [.int (Int32.ofNat len)])) := c1.trans (by
    refine XS.iloadN X0.here hexec rfl (hb hbytes d0) rfl ?_
    exact Steps.refl _)
  obtain ⟨T3, B3, X3, ba3, bs3, bv3, bh3, bf3, st3⟩ := X0.anew hexec (atype := .byte) (wk W (.arrayClass .byte)) rfl (by show len * 1 ≤ _; omega) (by omega) (g := (mkF m 1 #[.val (.ref b), .val (.int (Int32.ofNat o)), .val (.int (Int32.ofNat len)), .unset, .unset, .unset] [.int (Int32.ofNat len)])) rfl (hb hbytes d1) (rest := []) rfl (Nat.le_refl _) (by show 0 + len ≤ len; omega)
  rw [hh0] at ba3 st3
  have kp3 : XT.Kept s T3 := (XT.Kept.of_eq hh0).push bh3
  have hA3 := hA.keep X3.warmed.alike (kp3 _ _ hA.1.1)
  have hne : b ≠ s.heap.size := hA.1.ne
  have c4 : Steps p.tables e below (s₁.setTop (entryFrame m #[.ref b, .int (Int32.ofNat o), .int (Int32.ofNat len)] 6)) (T3.setTop (mkF m 3 #[.val (.ref b), .val (.int (Int32.ofNat o)), .val (.int (Int32.ofNat len)), .unset, .unset, .unset] [.ref s.heap.size])) := c2.trans (st3 _ (Steps.refl _))
  have c5 : Steps p.tables e below (s₁.setTop (entryFrame m #[.ref b, .int (Int32.ofNat o), .int (Int32.ofNat len)] 6)) (T3.setTop (mkF m 9 #[.val (.ref b), .val (.int (Int32.ofNat o)), .val (.int (Int32.ofNat len)), .val (.ref s.heap.size), .unset, .unset] [.int (Int32.ofNat len), .int 0, .ref s.heap.size, .int (Int32.ofNat o), .ref b])) := c4.trans (by
    refine XS.astoreN X3.here hexec rfl (hb hbytes d3) rfl rfl rfl ?_
    refine XS.aloadN X3.here hexec rfl (hb hbytes d4) rfl rfl ?_
    refine XS.iloadN X3.here hexec rfl (hb hbytes d5) rfl ?_
    refine XS.aloadN X3.here hexec rfl (hb hbytes d6) rfl rfl ?_
    refine iconstV X3.here hexec rfl 0 (hb hbytes d7) (by decide) ?_
    refine XS.iloadN X3.here hexec rfl (hb hbytes d8) rfl ?_
    exact Steps.refl _)
  obtain ⟨v6, T6, X6, E6, g6⟩ := X3.callS hexec (Cmp5.law l b A s.heap.size B3 o 0 len) hown (wks W (staticW U16 115 Cmp5.yN)) (wk W Cmp5.tab) (W := 0) (Nat.le_of_ble_eq_true rfl) (Nat.le_of_ble_eq_true rfl) (Nat.le_refl _) (by show 0 + len + 0 ≤ len; omega) (g := (mkF m 9 #[.val (.ref b), .val (.int (Int32.ofNat o)), .val (.int (Int32.ofNat len)), .val (.ref s.heap.size), .unset, .unset] [.int (Int32.ofNat len), .int (Int32.ofNat 0), .ref s.heap.size, .int (Int32.ofNat o), .ref b])) rfl (by rw [hml]; rfl) c5 (argsL := [.ref b, .int (Int32.ofNat o), .ref s.heap.size, .int (Int32.ofNat 0), .int (Int32.ofNat len)]) (rest := []) rfl rfl (by show 2 * 0 + 0 ≤ _; decide) (hb hbytes d9) (⟨rfl, hA3, ba3, hne, l1, by rw [bs3]; simp, hp⟩)
  obtain ⟨rfl, B6, p6, f6⟩ := E6
  have c7 : Steps p.tables e below (s₁.setTop (entryFrame m #[.ref b, .int (Int32.ofNat o), .int (Int32.ofNat len)] 6)) (T6.setTop (mkF m 12 #[.val (.ref b), .val (.int (Int32.ofNat o)), .val (.int (Int32.ofNat len)), .val (.ref s.heap.size), .unset, .unset] [.int (Int32.ofNat len)])) := g6
  have c8 : Steps p.tables e below (s₁.setTop (entryFrame m #[.ref b, .int (Int32.ofNat o), .int (Int32.ofNat len)] 6)) (T6.setTop (mkF m 58 #[.val (.ref b), .val (.int (Int32.ofNat o)), .val (.int (Int32.ofNat len)), .val (.ref s.heap.size), .val (.int (Int32.ofNat len)), .unset] [.ref s.heap.size])) := c7.trans (by
    refine XS.istore X6.here hexec rfl (hb hbytes d12) rfl rfl ?_
    refine XS.iload X6.here hexec rfl (hb hbytes d14) rfl ?_
    refine XS.iloadN X6.here hexec rfl (hb hbytes d16) rfl ?_
    refine XS.icmpYes X6.here hexec rfl (pc0 := 17) rfl (hb hbytes d17) rfl (ii_eq_t rfl) (by decide) rfl ?_
    refine XS.aloadN X6.here hexec rfl (hb hbytes d57) rfl rfl ?_
    exact Steps.refl _)
  have X8 := X6.wide (L' := []) (cells' := 1) (slots' := len) (fun x hx hlt => by
    simp only [List.nil_append, copyLocs, List.mem_map, List.mem_range] at hx
    obtain ⟨i, -, rfl⟩ := hx
    exact absurd hlt (Nat.lt_irrefl _)) (Nat.le_refl _) (by omega)
  exact ⟨T6, some (.ref s.heap.size), _, _, _, X8, rfl, rfl, rfl, (fun h => by cases h), ⟨⟨rfl, B6, ba3.like (X3.warmed.alike.symm.trans X6.warmed.alike) p6.1 f6.1 f6.2.1 f6.2.2.1, f6.2.1.trans bv3, by rw [X6.warmed.alike.findClass, f6.1]; exact bf3, by rw [f6.2.2.1, bs3]; simp, fun j hj => by rw [f6.2.2.2 j, if_pos (by omega)]; rfl, kp3.put p6 (Nat.le_refl _)⟩, by rw [p6.2.2, bh3, hh0]; simp⟩, fun fs hl => c8.trans (X8.areturnOut hexec rfl hret rfl (hb hbytes d58) hl)⟩
end Cmp3
namespace CodL
def yN : MethodName := ⟨"java/lang/StringUTF16", "coderFromArrayLen", "([BI)B"⟩
abbrev yB : ByteArray := jdk_52_method_15_code
theorem d0 : decode yB 0 = .ok (.iload_n 1, 1) := by decide +kernel
theorem d1 : decode yB 1 = .ok (.aload_n 0, 1) := by decide +kernel
theorem d2 : decode yB 2 = .ok (.arraylength, 1) := by decide +kernel
theorem d3 : decode yB 3 = .ok (.isub, 1) := by decide +kernel
theorem d4 : decode yB 4 = .ok (.bipush 31, 2) := by decide +kernel
theorem d6 : decode yB 6 = .ok (.iushr, 1) := by decide +kernel
theorem d7 : decode yB 7 = .ok (.i2b, 1) := by decide +kernel
theorem d8 : decode yB 8 = .ok (.ireturn, 1) := by decide +kernel
def site : List Cond := []
def tab : Cond := tabOf yN yB 2 (some .byte) site
def P (d : Addr) (B : Cell) (args : Array Value) (s : State) : Prop := args = #[.ref d, .int (Int32.ofNat B.slots.size)] ∧ Arr .byte d B s
def E (r : Option Value) (s u : State) : Prop := XT.PureE (some (.int 0)) r s u
/-- an array as long as the number of chars: LATIN1 -/
theorem law (l : Launch) (d : Addr) (B : Cell) : Law l yN 2 2 0 0 yB 2 (some .byte) site (P d B) E [] 0 0 := by
  refine Law.of_walk (plainFor_of_name (by decide +kernel)) (by decide +kernel) (by decide +kernel) (by decide) (fun _ _ h => by rw [h.1]; rfl) (fun _ U U' hal hh h => ⟨h.1, h.2.mv hal hh⟩) (fun r U U' V V' h1 hal h2 h => XT.PureE.mv r U U' V V' h1 hal h2 h) ?_
  intro p e s m args below meth c s₁ X0 hexec hbytes hml hret hlk hnm hown hh0 W hP
  obtain ⟨rfl, hB⟩ := hP
  have hB0 := hB.mv X0.warmed.alike hh0
  have c1 : Steps p.tables e below (s₁.setTop (entryFrame m #[.ref d, .int (Int32.ofNat B.slots.size)] 2)) (s₁.setTop (mkF m 0 #[.val (.ref d), .val (.int (Int32.ofNat B.slots.size))] [])) := entry rfl
  have c2 : Steps p.tables e below (s₁.setTop (entryFrame m #[.ref d, .int (Int32.ofNat B.slots.size)] 2)) (s₁.setTop (mkF m 2 #[.val (.ref d), .val (.int (Int32.ofNat B.slots.size))] [.ref d, .int (Int32.ofNat B.slots.size)])) := c1.trans (by
    refine XS.iloadN X0.here hexec rfl (hb hbytes d0) rfl ?_
    refine XS.aloadN X0.here hexec rfl (hb hbytes d1) rfl rfl ?_
    exact Steps.refl _)
  have c3 : Steps p.tables e below (s₁.setTop (entryFrame m #[.ref d, .int (Int32.ofNat B.slots.size)] 2)) (s₁.setTop (mkF m 8 #[.val (.ref d), .val (.int (Int32.ofNat B.slots.size))] [.int (lo8 (ushr (Int32.ofNat B.slots.size - Int32.ofNat B.slots.size) 31))])) := c2.trans (by
    refine X0.alen hexec hB0 rfl rfl (hb hbytes d2) ?_
    refine XS.isub X0.here hexec rfl (hb hbytes d3) rfl ?_
    refine bipushV X0.here hexec rfl 31 (hb hbytes d4) (by decide) ?_
    refine iushr X0.here hexec rfl (hb hbytes d6) rfl ?_
    refine i2b X0.here hexec rfl (hb hbytes d7) rfl ?_
    exact Steps.refl _)
  have e0 : lo8 (ushr (Int32.ofNat B.slots.size - Int32.ofNat B.slots.size) 31) = 0 := by rw [Int32.sub_self]; decide
  rw [e0] at c3
  exact ⟨s₁, some (.int 0), _, _, _, X0, rfl, rfl, rfl, (fun h => by cases h), ⟨rfl, hh0⟩, fun fs hl => c3.trans (X0.ireturnOut hexec hret rfl (Or.inr (Or.inr (Or.inl rfl))) (hb hbytes d8) hl)⟩
end CodL
/-- the String at a is Latin-1 over a new byte[] (the heap's one new cell): the low bytes of the len chars of A from o on; every cell but a is kept -/
def Got (a : Addr) (D : Cell) (fV fC : Field) (A : Cell) (o len : Nat) (r : Option Value) (s u : State) : Prop := r = none ∧ ∃ D' V : Cell, Blank "java/lang/String" a D' u ∧ Same D D' [fV.slot, fC.slot] ∧ D'.slots[fV.slot]? = some (.ref s.heap.size) ∧ D'.slots[fC.slot]? = some (.int 0) ∧ Arr .byte s.heap.size V u ∧ V.vm = .none ∧ u.vm.findClass "[B" = some V.cls ∧ V.slots.size = len ∧ (∀ j, j < len → V.slots[j]? = some (.int (lo8 (cv A (o + j))))) ∧ (∀ (y : Addr) (c : Cell), y ≠ a → s.heap[y]? = some c → u.heap[y]? = some c) ∧ u.heap.size = s.heap.size + 1
theorem Got.mv {a : Addr} {D A : Cell} {fV fC : Field} {o len : Nat} : ∀ r (U U' V V' : State), U'.heap = U.heap → V.vm.Alike V'.vm → V'.heap = V.heap → Got a D fV fC A o len r U V → Got a D fV fC A o len r U' V' :=
  fun r U U' V V' h1 hal h2 ⟨e0, D', X, a1, a2, a3, a4, a5, a6, a7, a8, a9, a10, a11⟩ => ⟨e0, D', X, a1.mv hal h2, a2, by rw [h1]; exact a3, a4, by rw [h1]; exact a5.mv hal h2, a6, by rw [hal.findClass]; exact a7, a8, a9, by rw [h1, h2]; exact a10, by rw [h1, h2]; exact a11⟩
namespace New4
def yN : MethodName := ⟨"java/lang/String", "<init>", "([CIILjava/lang/Void;)V"⟩
abbrev yB : ByteArray := jdk_42_method_149_code
theorem d0 : decode yB 0 = .ok (.aload_n 0, 1) := by decide +kernel
theorem d1 : decode yB 1 = .ok (.invokespecial 1, 3) := by decide +kernel
theorem d4 : decode yB 4 = .ok (.iload_n 3, 1) := by decide +kernel
theorem d5 : decode yB 5 = .ok (.ifCond (.ne) 22, 3) := by decide +kernel
theorem d27 : decode yB 27 = .ok (.getstatic 38, 3) := by decide +kernel
theorem d30 : decode yB 30 = .ok (.ifCond (.eq) 28, 3) := by decide +kernel
theorem d33 : decode yB 33 = .ok (.aload_n 1, 1) := by decide +kernel
theorem d34 : decode yB 34 = .ok (.iload_n 2, 1) := by decide +kernel
theorem d35 : decode yB 35 = .ok (.iload_n 3, 1) := by decide +kernel
theorem d36 : decode yB 36 = .ok (.invokestatic 177, 3) := by decide +kernel
theorem d39 : decode yB 39 = .ok (.astore 5, 2) := by decide +kernel
theorem d41 : decode yB 41 = .ok (.aload_n 0, 1) := by decide +kernel
theorem d42 : decode yB 42 = .ok (.aload 5, 2) := by decide +kernel
theorem d44 : decode yB 44 = .ok (.iload_n 3, 1) := by decide +kernel
theorem d45 : decode yB 45 = .ok (.invokestatic 47, 3) := by decide +kernel
theorem d48 : decode yB 48 = .ok (.putfield 15, 3) := by decide +kernel
theorem d51 : decode yB 51 = .ok (.aload_n 0, 1) := by decide +kernel
theorem d52 : decode yB 52 = .ok (.aload 5, 2) := by decide +kernel
theorem d54 : decode yB 54 = .ok (.putfield 9, 3) := by decide +kernel
theorem d57 : decode yB 57 = .ok (.return_, 1) := by decide +kernel
def site : List Cond := [.fieldLink "java/lang/String" 38 "java/lang/String" "COMPACT_STRINGS" "Z", Cmp3.tab, CodL.tab, .laysFinal "java/lang/String" "java/lang/String" "value" "[B", .fieldLink "java/lang/String" 9 "java/lang/String" "value" "[B", .laysFinal "java/lang/String" "java/lang/String" "coder" "B", .fieldLink "java/lang/String" 15 "java/lang/String" "coder" "B"] ++ objW "java/lang/String" 1 ++ staticW "java/lang/String" 177 Cmp3.yN ++ staticW "java/lang/String" 47 CodL.yN
def tab : Cond := tabOf yN yB 6 none site
def P (a : Addr) (D : Cell) (fV fC : Field) (b : Addr) (A : Cell) (z : Int32) (o len : Nat) (args : Array Value) (s : State) : Prop := args = #[.ref a, .ref b, .int (Int32.ofNat o), .int (Int32.ofNat len), .null] ∧ Blank "java/lang/String" a D s ∧ Found "java/lang/String" "value" "[B" fV s ∧ Found "java/lang/String" "coder" "B" fC s ∧ Ch b A s ∧ StaticIs s "java/lang/String" "COMPACT_STRINGS" "Z" (.int z) ∧ ¬ z = 0 ∧ 0 < len ∧ o + len ≤ A.slots.size ∧ len ≤ 536870912 ∧ ∀ i, i < len → ¬ 255 < cv A (o + i)
def E (a : Addr) (D : Cell) (fV fC : Field) (A : Cell) (o len : Nat) (r : Option Value) (s u : State) : Prop := Got a D fV fC A o len r s u
/-- len > 0, no char of the range above 255: a Latin-1 String of their low bytes -/
theorem law (l : Launch) (a : Addr) (D : Cell) (fV fC : Field) (b : Addr) (A : Cell) (z : Int32) (o len : Nat) : Law l yN 5 4 2 35 yB 6 none site (P a D fV fC b A z o len) (E a D fV fC A o len) [⟨a, fC.slot⟩, ⟨a, fV.slot⟩] 1 len := by
  refine Law.of_walk (plainFor_of_name (by decide +kernel)) (by decide +kernel) (by decide +kernel) (by decide) (fun _ _ h => by rw [h.1]; rfl) (fun _ U U' hal hh h => ⟨h.1, h.2.1.mv hal hh, h.2.2.1.al hal, h.2.2.2.1.al hal, h.2.2.2.2.1.mv hal hh, h.2.2.2.2.2.1.there hal hh, h.2.2.2.2.2.2⟩) (fun r U U' V V' h1 hal h2 h => Got.mv r U U' V V' h1 hal h2 h) ?_
  intro p e s m args below meth c s₁ X0 hexec hbytes hml hret hlk hnm hown hh0 W hP
  obtain ⟨rfl, hB, f1, f2, hA, s1, hz, l0, l1, l2, hp⟩ := hP
  have a31 := hA.1.2.2.2
  have c1 : Steps p.tables e below (s₁.setTop (entryFrame m #[.ref a, .ref b, .int (Int32.ofNat o), .int (Int32.ofNat len), .null] 6)) (s₁.setTop (mkF m 0 #[.val (.ref a), .val (.ref b), .val (.int (Int32.ofNat o)), .val (.int (Int32.ofNat len)), .val .null, .unset] [])) := entry rfl
  have c2 : Steps p.tables e below (s₁.setTop (entryFrame m #[.ref a, .ref b, .int (Int32.ofNat o), .int (Int32.ofNat len), .null] 6)) (s₁.setTop (mkF m 1 #[.val (.ref a), .val (.ref b), .val (.int (Int32.ofNat o)), .val (.int (Int32.ofNat len)), .val .null, .unset] [.ref a])) := c1.trans (by
    refine XS.aloadN X0.here hexec rfl (hb hbytes d0) rfl rfl ?_
    exact Steps.refl _)
  obtain ⟨T3, X3, q3, st3⟩ := X0.oinit hexec hown (wks W (objW "java/lang/String" 1)) (g := (mkF m 1 #[.val (.ref a), .val (.ref b), .val (.int (Int32.ofNat o)), .val (.int (Int32.ofNat len)), .val .null, .unset] [.ref a])) rfl (by rw [hml]; rfl) (rest := []) rfl (hb hbytes d1) (W := 0) (by show 2 * 0 + 0 ≤ _; decide) (Nat.le_of_ble_eq_true rfl) (Nat.le_of_ble_eq_true rfl)
  have hh3 := q3.trans hh0
  have c4 : Steps p.tables e below (s₁.setTop (entryFrame m #[.ref a, .ref b, .int (Int32.ofNat o), .int (Int32.ofNat len), .null] 6)) (T3.setTop (mkF m 27 #[.val (.ref a), .val (.ref b), .val (.int (Int32.ofNat o)), .val (.int (Int32.ofNat len)), .val .null, .unset] [])) := (c2.trans (st3 _ (Steps.refl _))).trans (by
    refine XS.iloadN X3.here hexec rfl (hb hbytes d4) rfl ?_
    refine XS.ifYes X3.here hexec rfl (pc0 := 5) rfl (hb hbytes d5) rfl (i0_ne_t (nz32 (by omega) l0)) (by decide) rfl ?_
    exact Steps.refl _)
  obtain ⟨T5, X5, q5, st5⟩ := X3.sget hexec hown (wk W (.fieldLink "java/lang/String" 38 "java/lang/String" "COMPACT_STRINGS" "Z")) s1 (fun _ _ h => by rw [hh3]; exact h) (g := (mkF m 27 #[.val (.ref a), .val (.ref b), .val (.int (Int32.ofNat o)), .val (.int (Int32.ofNat len)), .val .null, .unset] [])) rfl (hb hbytes d27)
  have hh5 := q5.trans hh3
  have c6 : Steps p.tables e below (s₁.setTop (entryFrame m #[.ref a, .ref b, .int (Int32.ofNat o), .int (Int32.ofNat len), .null] 6)) (T5.setTop (mkF m 30 #[.val (.ref a), .val (.ref b), .val (.int (Int32.ofNat o)), .val (.int (Int32.ofNat len)), .val .null, .unset] [.int z])) := c4.trans (st5 _ (Steps.refl _))
  have c7 : Steps p.tables e below (s₁.setTop (entryFrame m #[.ref a, .ref b, .int (Int32.ofNat o), .int (Int32.ofNat len), .null] 6)) (T5.setTop (mkF m 36 #[.val (.ref a), .val (.ref b), .val (.int (Int32.ofNat o)), .val (.int (Int32.ofNat len)), .val .null, .unset] [.int (Int32.ofNat len), .int (Int32.ofNat o), .ref b])) := c6.trans (by
    refine XS.ifNo X5.here hexec rfl (hb hbytes d30) rfl (i0_eq_f hz) ?_
    refine XS.aloadN X5.here hexec rfl (hb hbytes d33) rfl rfl ?_
    refine XS.iloadN X5.here hexec rfl (hb hbytes d34) rfl ?_
    refine XS.iloadN X5.here hexec rfl (hb hbytes d35) rfl ?_
    exact Steps.refl _)
  obtain ⟨v8, T8, X8, E8, g8⟩ := X5.callS hexec (Cmp3.law l b A o len) hown (wks W (staticW "java/lang/String" 177 Cmp3.yN)) (wk W Cmp3.tab) (W := 0) (Nat.le_of_ble_eq_true rfl) (Nat.le_of_ble_eq_true rfl) (Nat.le_refl _) (by show 0 + len ≤ len; omega) (g := (mkF m 36 #[.val (.ref a), .val (.ref b), .val (.int (Int32.ofNat o)), .val (.int (Int32.ofNat len)), .val .null, .unset] [.int (Int32.ofNat len), .int (Int32.ofNat o), .ref b])) rfl (by rw [hml]; rfl) c7 (argsL := [.ref b, .int (Int32.ofNat o), .int (Int32.ofNat len)]) (rest := []) rfl rfl (by show 2 * 0 + 0 ≤ _; decide) (hb hbytes d36) (⟨rfl, hA.mv X5.warmed.alike hh5, l1, l2, hp⟩)
  obtain ⟨e8, z8⟩ := E8
  obtain ⟨rfl, N, n1, n2, n3, n4, n5, n6⟩ := NewArr.mv _ T5 s _ _ hh5.symm (Vm.Alike.refl _) rfl e8
  rw [hh5] at z8
  have hB1 := hB.keep X8.warmed.alike (n6 _ _ hB.1)
  have hne : s.heap.size ≠ a := (Nat.ne_of_lt (Array.getElem?_eq_some_iff.mp hB.1).1).symm
  have c9 : Steps p.tables e below (s₁.setTop (entryFrame m #[.ref a, .ref b, .int (Int32.ofNat o), .int (Int32.ofNat len), .null] 6)) (T8.setTop (mkF m 39 #[.val (.ref a), .val (.ref b), .val (.int (Int32.ofNat o)), .val (.int (Int32.ofNat len)), .val .null, .unset] [.ref s.heap.size])) := g8
  have c10 : Steps p.tables e below (s₁.setTop (entryFrame m #[.ref a, .ref b, .int (Int32.ofNat o), .int (Int32.ofNat len), .null] 6)) (T8.setTop (mkF m 45 #[.val (.ref a), .val (.ref b), .val (.int (Int32.ofNat o)), .val (.int (Int32.ofNat len)), .val .null, .val (.ref s.heap.size)] [.int (Int32.ofNat N.slots.size), .ref s.heap.size, .ref a])) := by
    have hc : Steps p.tables e below (s₁.setTop (entryFrame m #[.ref a, .ref b, .int (Int32.ofNat o), .int (Int32.ofNat len), .null] 6)) (T8.setTop (mkF m 45 #[.val (.ref a), .val (.ref b), .val (.int (Int32.ofNat o)), .val (.int (Int32.ofNat len)), .val .null, .val (.ref s.heap.size)] [.int (Int32.ofNat len), .ref s.heap.size, .ref a])) := c9.trans (by
      refine XS.astore X8.here hexec rfl (hb hbytes d39) rfl rfl rfl ?_
      refine XS.aloadN X8.here hexec rfl (hb hbytes d41) rfl rfl ?_
      refine XS.aload X8.here hexec rfl (hb hbytes d42) rfl rfl ?_
      refine XS.iloadN X8.here hexec rfl (hb hbytes d44) rfl ?_
      exact Steps.refl _)
    rw [n4]; exact hc
  obtain ⟨v11, T11, X11, E11, g11⟩ := X8.callS hexec (CodL.law l s.heap.size N) hown (wks W (staticW "java/lang/String" 47 CodL.yN)) (wk W CodL.tab) (W := 1) (Nat.le_of_ble_eq_true rfl) (Nat.le_of_ble_eq_true rfl) (Nat.le_refl _) (by show 0 + len + 0 ≤ len; omega) (g := (mkF m 45 #[.val (.ref a), .val (.ref b), .val (.int (Int32.ofNat o)), .val (.int (Int32.ofNat len)), .val .null, .val (.ref s.heap.size)] [.int (Int32.ofNat N.slots.size), .ref s.heap.size, .ref a])) rfl (by rw [hml]; rfl) c10 (argsL := [.ref s.heap.size, .int (Int32.ofNat N.slots.size)]) (rest := [.ref a]) rfl rfl (by show 2 * 0 + (1 + 0) ≤ _; decide) (hb hbytes d45) (⟨rfl, n1⟩)
  obtain ⟨rfl, q11⟩ := E11
  have hB11 := hB1.mv (X8.warmed.alike.symm.trans X11.warmed.alike) q11
  have c12 : Steps p.tables e below (s₁.setTop (entryFrame m #[.ref a, .ref b, .int (Int32.ofNat o), .int (Int32.ofNat len), .null] 6)) (T11.setTop (mkF m 48 #[.val (.ref a), .val (.ref b), .val (.int (Int32.ofNat o)), .val (.int (Int32.ofNat len)), .val .null, .val (.ref s.heap.size)] [.int 0, .ref a])) := g11
  obtain ⟨T13, X13, p13, bl13, sl13, st13⟩ := X11.finit hexec hown (wk W (.fieldLink "java/lang/String" 15 "java/lang/String" "coder" "B")) (Or.inr ⟨_, (wk W (.laysFinal "java/lang/String" "java/lang/String" "coder" "B"))⟩) (Or.inl ⟨rfl, hnm⟩) f2 (Or.inl rfl) hB11 (t := .byte) (by decide +kernel) rfl (g := (mkF m 48 #[.val (.ref a), .val (.ref b), .val (.int (Int32.ofNat o)), .val (.int (Int32.ofNat len)), .val .null, .val (.ref s.heap.size)] [.int 0, .ref a])) rfl (rest := []) rfl (hb hbytes d48)
  have c14 : Steps p.tables e below (s₁.setTop (entryFrame m #[.ref a, .ref b, .int (Int32.ofNat o), .int (Int32.ofNat len), .null] 6)) (T13.setTop (mkF m 54 #[.val (.ref a), .val (.ref b), .val (.int (Int32.ofNat o)), .val (.int (Int32.ofNat len)), .val .null, .val (.ref s.heap.size)] [.ref s.heap.size, .ref a])) := (c12.trans (st13 _ (Steps.refl _))).trans (by
    refine XS.aloadN X13.here hexec rfl (hb hbytes d51) rfl rfl ?_
    refine XS.aload X13.here hexec rfl (hb hbytes d52) rfl rfl ?_
    exact Steps.refl _)
  obtain ⟨T15, X15, p15, bl15, sl15, st15⟩ := X13.finit hexec hown (wk W (.fieldLink "java/lang/String" 9 "java/lang/String" "value" "[B")) (Or.inr ⟨_, (wk W (.laysFinal "java/lang/String" "java/lang/String" "value" "[B"))⟩) (Or.inl ⟨rfl, hnm⟩) f1 (Or.inl rfl) bl13 (t := (.array .byte)) (by decide +kernel) rfl (g := (mkF m 54 #[.val (.ref a), .val (.ref b), .val (.int (Int32.ofNat o)), .val (.int (Int32.ofNat len)), .val .null, .val (.ref s.heap.size)] [.ref s.heap.size, .ref a])) rfl (rest := []) rfl (hb hbytes d54)
  have c16 : Steps p.tables e below (s₁.setTop (entryFrame m #[.ref a, .ref b, .int (Int32.ofNat o), .int (Int32.ofNat len), .null] 6)) (T15.setTop (mkF m 57 #[.val (.ref a), .val (.ref b), .val (.int (Int32.ofNat o)), .val (.int (Int32.ofNat len)), .val .null, .val (.ref s.heap.size)] [])) := c14.trans (st15 _ (Steps.refl _))
  have ap := apart (Or.inr ⟨_, (wk W (.laysFinal "java/lang/String" "java/lang/String" "value" "[B"))⟩) (Or.inr ⟨_, (wk W (.laysFinal "java/lang/String" "java/lang/String" "coder" "B"))⟩) f1 f2 (t₁ := .array .byte) (t₂ := .byte) (by decide +kernel) (by decide +kernel) (by decide)
  have al := X8.warmed.alike.symm.trans X15.warmed.alike
  have n7 : T11.heap[s.heap.size]? = some N := by rw [q11]; exact n1.1
  exact ⟨T15, none, _, _, _, X15, by simp, rfl, by omega, (fun _ => rfl), ⟨rfl, _, N, bl15, ((Same.refl D _).set _ (by simp)).set _ (by simp), sl15, (Cell.slots_setSlot_ne _ ap).trans sl13, n1.keep al (p15.other hne (p13.other hne n7)), n2, by rw [al.findClass]; exact n3, n4, n5, fun y c h1 h2 => p15.other h1 (p13.other h1 (by rw [q11]; exact n6 y c h2)), by rw [p15.2.2, p13.2.2, q11]; exact z8⟩, fun fs hl => c16.trans (X15.returnOut hexec hret (hb hbytes d57) hl)⟩
end New4
namespace New1
def yN : MethodName := ⟨"java/lang/String", "<init>", "([C)V"⟩
abbrev yB : ByteArray := jdk_42_method_3_code
theorem d0 : decode yB 0 = .ok (.aload_n 0, 1) := by decide +kernel
theorem d1 : decode yB 1 = .ok (.aload_n 1, 1) := by decide +kernel
theorem d2 : decode yB 2 = .ok (.iconst 0, 1) := by decide +kernel
theorem d3 : decode yB 3 = .ok (.aload_n 1, 1) := by decide +kernel
theorem d4 : decode yB 4 = .ok (.arraylength, 1) := by decide +kernel
theorem d5 : decode yB 5 = .ok (.aconst_null, 1) := by decide +kernel
theorem d6 : decode yB 6 = .ok (.invokespecial 27, 3) := by decide +kernel
theorem d9 : decode yB 9 = .ok (.return_, 1) := by decide +kernel
def site : List Cond := [New4.tab] ++ initW "java/lang/String" 27 New4.yN
def tab : Cond := tabOf yN yB 2 none site
def P (a : Addr) (D : Cell) (fV fC : Field) (b : Addr) (A : Cell) (z : Int32) (args : Array Value) (s : State) : Prop := args = #[.ref a, .ref b] ∧ Blank "java/lang/String" a D s ∧ Found "java/lang/String" "value" "[B" fV s ∧ Found "java/lang/String" "coder" "B" fC s ∧ Ch b A s ∧ StaticIs s "java/lang/String" "COMPACT_STRINGS" "Z" (.int z) ∧ ¬ z = 0 ∧ 0 < A.slots.size ∧ A.slots.size ≤ 536870912 ∧ ∀ i, i < A.slots.size → ¬ 255 < cv A i
def E (a : Addr) (D : Cell) (fV fC : Field) (A : Cell) (r : Option Value) (s u : State) : Prop := Got a D fV fC A 0 A.slots.size r s u
/-- new String(chars), not empty, no char above 255: a Latin-1 String of their low bytes -/
theorem law (l : Launch) (a : Addr) (D : Cell) (fV fC : Field) (b : Addr) (A : Cell) (z : Int32) : Law l yN 2 1 3 52 yB 2 none site (P a D fV fC b A z) (E a D fV fC A) [⟨a, fC.slot⟩, ⟨a, fV.slot⟩] 1 A.slots.size := by
  refine Law.of_walk (plainFor_of_name (by decide +kernel)) (by decide +kernel) (by decide +kernel) (by decide) (fun _ _ h => by rw [h.1]; rfl) (fun _ U U' hal hh h => ⟨h.1, h.2.1.mv hal hh, h.2.2.1.al hal, h.2.2.2.1.al hal, h.2.2.2.2.1.mv hal hh, h.2.2.2.2.2.1.there hal hh, h.2.2.2.2.2.2⟩) (fun r U U' V V' h1 hal h2 h => Got.mv r U U' V V' h1 hal h2 h) ?_
  intro p e s m args below meth c s₁ X0 hexec hbytes hml hret hlk hnm hown hh0 W hP
  obtain ⟨rfl, hB, f1, f2, hA, s1, hz, l0, l2, hp⟩ := hP
  have c1 : Steps p.tables e below (s₁.setTop (entryFrame m #[.ref a, .ref b] 2)) (s₁.setTop (mkF m 0 #[.val (.ref a), .val (.ref b)] [])) := entry rfl
  have c2 : Steps p.tables e below (s₁.setTop (entryFrame m #[.ref a, .ref b] 2)) (s₁.setTop (mkF m 6 #[.val (.ref a), .val (.ref b)] [.null, .int (Int32.ofNat A.slots.size), .int 0, .ref b, .ref a])) := c1.trans (by
    refine XS.aloadN X0.here hexec rfl (hb hbytes d0) rfl rfl ?_
    refine XS.aloadN X0.here hexec rfl (hb hbytes d1) rfl rfl ?_
    refine iconstV X0.here hexec rfl 0 (hb hbytes d2) (by decide) ?_
    refine XS.aloadN X0.here hexec rfl (hb hbytes d3) rfl rfl ?_
    refine X0.alen hexec (hA.1.mv X0.warmed.alike hh0) rfl rfl (hb hbytes d4) ?_
    refine XS.aconstNull X0.here hexec rfl (hb hbytes d5) ?_
    exact Steps.refl _)
  obtain ⟨v3, T3, X3, E3, g3⟩ := X0.callN hexec (New4.law l a D fV fC b A z 0 A.slots.size) rfl hown (wks W (initW "java/lang/String" 27 New4.yN)) (W New4.tab (by simp only [site, List.mem_cons, List.mem_append, true_or, or_true])) (W := 0) (Nat.le_of_ble_eq_true rfl) (Nat.le_of_ble_eq_true rfl) (Nat.le_refl _) (by show 0 + A.slots.size ≤ A.slots.size; omega) (g := (mkF m 6 #[.val (.ref a), .val (.ref b)] [.null, .int (Int32.ofNat A.slots.size), .int (Int32.ofNat 0), .ref b, .ref a])) rfl (by rw [hml]; rfl) c2 (argsL := [.ref b, .int (Int32.ofNat 0), .int (Int32.ofNat A.slots.size), .null]) (rest := []) rfl rfl (by show 2 * 0 + 0 ≤ _; decide) (hb hbytes d6) (⟨rfl, hB.mv X0.warmed.alike hh0, f1.al X0.warmed.alike, f2.al X0.warmed.alike, hA.mv X0.warmed.alike hh0, s1.there X0.warmed.alike hh0, hz, l0, by omega, l2, fun i hi => by rw [Nat.zero_add]; exact hp i hi⟩)
  have e0 := Got.mv _ s₁ s _ _ hh0.symm (Vm.Alike.refl _) rfl E3
  obtain rfl := e0.1
  have c4 : Steps p.tables e below (s₁.setTop (entryFrame m #[.ref a, .ref b] 2)) (T3.setTop (mkF m 9 #[.val (.ref a), .val (.ref b)] [])) := g3
  exact ⟨T3, none, _, _, _, X3, by simp, rfl, by omega, (fun _ => rfl), e0, fun fs hl => c4.trans (X3.returnOut hexec hret (hb hbytes d9) hl)⟩
theorem pays {l : Launch} {R : Room} {p : Program} {e : Env} {below : List Frame} {s : State} {sargs : Array Value} {len W : Nat} (a : Addr) (D : Cell) (fV fC : Field) (b : Addr) (A : Cell) (z : Int32) (htab : tab.before sargs s = true) (hfr : 4 ≤ R.frames) (hlo : W + 65 ≤ R.locals) :
    Back l R p e below s sargs yN len W (fun A₁ a₁ => A₁.cells + 1 ≤ R.cells ∧ A₁.slots + A.slots.size ≤ R.slots ∧ P a D fV fC b A z a₁ A₁.U) (fun A₁ _ v₁ B₁ => E a D fV fC A v₁ A₁.U B₁.U ∧ B₁.locs = A₁.locs ++ [⟨a, fC.slot⟩, ⟨a, fV.slot⟩] ∧ B₁.cells = A₁.cells + 1 ∧ B₁.slots = A₁.slots + A.slots.size) :=
  (law l a D fV fC b A z).pays htab hfr (by omega)
end New1
end StrChars
namespace StrChars.Road
open Jvm Sem ClassFile Op Lib Jvm.Stand Jvm.Free Jvm.Free.XT
open Jvm.Lib.Cold (StaticIs)
abbrev ST : String := "java/lang/String"
/-- every table word that New1's law asks, flat -/
abbrev words : List Jvm.Cond := [.code New1.yN New1.yB 2 none, .initialized ST, .methodLink ST 27 New4.yN, .instanceMethod New4.yN,
  .code New4.yN New4.yB 6 none, .fieldLink ST 38 ST "COMPACT_STRINGS" "Z", .laysFinal ST ST "value" "[B", .fieldLink ST 9 ST "value" "[B", .laysFinal ST ST "coder" "B", .fieldLink ST 15 ST "coder" "B",
  .methodLink ST 1 Lib.objectInit, .instanceMethod Lib.objectInit, .code Lib.objectInit ⟨#[0xb1]⟩ 1 none, .methodLink ST 177 Cmp3.yN, .static Cmp3.yN, .methodLink ST 47 CodL.yN, .static CodL.yN,
  .code Cmp3.yN Cmp3.yB 6 (some (.array .byte)), .initialized U16, .arrayClass .byte, .methodLink U16 115 Cmp5.yN, .static Cmp5.yN, .code Cmp5.yN Cmp5.yB 7 (some .int), .code CodL.yN CodL.yB 2 (some .byte)]
theorem tab_of {a : Array Value} {s : State} (h : ∀ w ∈ words, w.before a s = true) : New1.tab.before a s = true := by
  have h5 : Cmp5.tab.before a s = true := unparts (wk h (.code Cmp5.yN Cmp5.yB 7 (some .int))) (wks h (.initialized Cmp5.yN.cls :: Cmp5.site))
  have hc : CodL.tab.before a s = true := unparts (wk h (.code CodL.yN CodL.yB 2 (some .byte))) (wks h (.initialized CodL.yN.cls :: CodL.site))
  have q5 : ∀ w ∈ Cmp5.tab :: words, w.before a s = true := fun w hw => (List.mem_cons.mp hw).elim (fun e => e ▸ h5) (h w)
  have h3 : Cmp3.tab.before a s = true := unparts (wk q5 (.code Cmp3.yN Cmp3.yB 6 (some (.array .byte)))) (wks q5 (.initialized Cmp3.yN.cls :: Cmp3.site))
  have q3 : ∀ w ∈ Cmp3.tab :: CodL.tab :: words, w.before a s = true := fun w hw => (List.mem_cons.mp hw).elim (fun e => e ▸ h3) fun hw => (List.mem_cons.mp hw).elim (fun e => e ▸ hc) (h w)
  have h4 : New4.tab.before a s = true := unparts (wk q3 (.code New4.yN New4.yB 6 none)) (wks q3 (.initialized New4.yN.cls :: New4.site))
  have q4 : ∀ w ∈ New4.tab :: words, w.before a s = true := fun w hw => (List.mem_cons.mp hw).elim (fun e => e ▸ h4) (h w)
  exact unparts (wk q4 (.code New1.yN New1.yB 2 none)) (wks q4 (.initialized New1.yN.cls :: New1.site))
/-- the words ride from the start Z to the walk's own state -/
theorem moved {Z s : State} {a0 args : Array Value} (hZ : Z.Warmed39 s.vm) (hw : ∀ d ∈ words, d.before a0 Z = true) : ∀ d ∈ words, d.before args s = true := fun d hd => by
  have q := hw d hd
  have t : ∀ d ∈ words, d = .arrayClass .byte ∨ (d.onTables && d.keepsFace) = true := by decide +kernel
  rcases t d hd with rfl | t
  · exact RoadKit.mvA hZ q
  · exact RoadKit.mv hZ q t
/-- WHAT COMES BACK, over the tables of the start Z: h the heap at the call, h' behind it -/
def Q (Z : State) (x : Addr) (A : Cell) (h : Heap) (v : Option Value) (h' : Heap) (L : List Loc) : Prop := v = none ∧ (∀ y ∈ L, y.base = x) ∧ RoadKit.Keep h h' [x] ∧ h'.size = h.size + 1 ∧ RoadKit.Exa Z h' x ST ∧ RoadKit.Fld Z h' x ST "value" "[B" (.ref h.size) ∧ RoadKit.Fld Z h' x ST "coder" "B" (.int 0) ∧
  (∃ V : Cell, RoadKit.Arr Z h' h.size V .byte ∧ V.vm = .none ∧ Z.vm.findClass "[B" = some V.cls ∧ V.slots.size = A.slots.size ∧ ∀ j, j < A.slots.size → V.slots[j]? = some (.int (lo8 (cv A j)))) ∧
  ∀ (O n d : String) (w : Value), RoadKit.Fld Z h x O n d w → RoadKit.slotOf Z O n d ≠ RoadKit.slotOf Z ST "value" "[B" → RoadKit.slotOf Z O n d ≠ RoadKit.slotOf Z ST "coder" "B" → RoadKit.Fld Z h' x O n d w
/-- **new String(chars) AT A CALL, IN THE ROAD'S FORM**: for specialBack behind newO: x the fresh String, b the char[] with the cell A -/
theorem back {p : Program} {l : Launch} {e : Env} {R : Room} {s : State} {args : Array Value} {below : List Frame} {len W : Nat} {Z : State} {a0 : Array Value} {h : Heap} (hZ : Z.Warmed39 s.vm) (hw : ∀ d ∈ words, d.before a0 Z = true) {kI : Nat} (wi : (Jvm.Cond.instantiable ST kI).before a0 Z = true)
    {x b : Addr} {A : Cell} {z : Int32} {v0 c0 : Value} (E : RoadKit.Exa Z h x ST) (V : RoadKit.Fld Z h x ST "value" "[B" v0) (C : RoadKit.Fld Z h x ST "coder" "B" c0) (K : RoadKit.Arr Z h b A .char) (hty : Typed .char A) (S : RoadKit.Sta Z h ST "COMPACT_STRINGS" "Z" (.int z)) (hz : ¬ z = 0)
    (l0 : 0 < A.slots.size) (l2 : A.slots.size ≤ 536870912) (hp : ∀ i, i < A.slots.size → ¬ 255 < cv A i) (hfr : 4 ≤ R.frames) (hlo : W + 65 ≤ R.locals) :
    Back l R p e below s args New1.yN len W (fun P a => a = #[.ref x, .ref b] ∧ P.U.heap = h ∧ P.cells + 1 ≤ R.cells ∧ P.slots + A.slots.size ≤ R.slots)
      (fun P _ v B => ∃ L, Q Z x A h v B.U.heap L ∧ B.locs = P.locs ++ L ∧ B.cells = P.cells + 1 ∧ B.slots = P.slots + A.slots.size) := by
  intro m meth c P g ig mk a X hg hsize hdg hW hn hp'
  obtain ⟨rfl, rfl, r1, r2⟩ := hp'
  have al : Z.vm.Alike P.U.vm := hZ.alike.trans X.warmed.alike
  obtain ⟨D, cfV, kV, iV, fV, hD, gV, stV, knV, obV, asV, slV⟩ := id V
  obtain ⟨D', cfC, kC, iC, fC, hD', gC, stC, -, -, asC, slC⟩ := id C
  cases hD.symm.trans hD'
  obtain ⟨D2, kD, e1, e2, e3, e4, e5⟩ := id E
  cases hD.symm.trans e1
  obtain ⟨c2, k2, i1, i2, i3, -⟩ := Cond.instantiable_spec wi
  cases e2.symm.trans i1
  cases e3.symm.trans i2
  obtain ⟨kU, u1, u2⟩ := al.2.2 _ _ e3
  have hB : Blank ST x D P.U := ⟨hD, ⟨knV, fun q hq => by rw [hq] at obV; cases obV⟩, by rw [al.findClass]; exact e2, kU, u1, by rw [u2]; exact i3, by rw [u2]; exact e5 i3⟩
  have F1 : Found ST "value" "[B" fV P.U := ⟨SBG.found_only al ⟨cfV, kV, iV, gV⟩, stV⟩
  have F2 : Found ST "coder" "B" fC P.U := ⟨SBG.found_only al ⟨cfC, kC, iC, gC⟩, stC⟩
  have hA : Ch b A P.U := ⟨⟨K.1, State.isArrayOf_alike al K.2.1, K.2.2, by omega⟩, hty⟩
  have hS : StaticIs P.U ST "COMPACT_STRINGS" "Z" (.int z) := by
    obtain ⟨cfS, iS, kS, fS, st, cS, t1, t2, t3, t4, t5, t6, t7⟩ := S
    exact StaticIs.there (s := { Z with heap := P.U.heap }) ⟨cfS, iS, kS, fS, st, cS, t1, t2, t3, t4, t5, (fun q => by rw [q] at t6; cases t6), t7⟩ al rfl
  obtain ⟨v, B, X', ⟨⟨hv, E', V', q1, q2, q3, q4, q5, q6, q7, q8, q9, q10, q11⟩, hl, hc, hs⟩, st⟩ := New1.pays x D fV fC b A z (tab_of (moved hZ hw)) hfr hlo m meth c P g ig mk _ X hg hsize hdg hW hn ⟨r1, r2, rfl, hB, F1, F2, hA, hS, hz, l0, l2, hp⟩
  have al' : Z.vm.Alike B.U.vm := hZ.alike.trans X'.warmed.alike
  have hsz : E'.slots.size = D.slots.size := by
    obtain ⟨-, -, -, kB, w1, w2, w3⟩ := q1
    obtain ⟨kB', y1, y2⟩ := al'.2.2 _ _ e3
    rw [q2.2.1] at w1
    cases w1.symm.trans y1
    rw [w3, e5 i3, y2]
  refine ⟨v, B, X', ⟨_, ⟨hv, ?_, ⟨by omega, fun y cy hy hn' => q10 y cy (by simpa using hn') hy, fun y cy hy => ?_⟩, q11, ⟨E', _, q1.1, by rw [q2.2.1]; exact e2, by rw [q2.2.1]; exact e3, by rw [q2.1]; exact obV, fun _ => by rw [hsz]; exact e5 i3⟩,
    ⟨E', cfV, kV, iV, fV, q1.1, gV, stV, by rw [q2.1]; exact knV, by rw [q2.1]; exact obV, by rw [q2.2.1]; exact asV, q3⟩, ⟨E', cfC, kC, iC, fC, q1.1, gC, stC, by rw [q2.1]; exact knV, by rw [q2.1]; exact obV, by rw [q2.2.1]; exact asC, q4⟩,
    ⟨V', ⟨q5.1, State.isArrayOf_alike al'.symm q5.2.1, q5.2.2.1⟩, q6, by rw [← al'.findClass]; exact q7, q8, fun j hj => by have := q9 j hj; rwa [Nat.zero_add] at this⟩, fun O n d w F n1 n2 => ?_⟩, hl, hc, hs⟩, st⟩
  · intro y hy
    simp only [List.mem_cons, List.not_mem_nil, or_false] at hy
    rcases hy with rfl | rfl <;> rfl
  · by_cases q : y = x
    · subst q
      cases hD.symm.trans hy
      exact ⟨E', q1.1, q2.2.1, q2.1, hsz⟩
    · exact ⟨cy, q10 y cy q hy, rfl, rfl, rfl⟩
  · obtain ⟨D3, cf, k, i, f, g1, g2, g3, g4, g5, g6, g7⟩ := F
    cases hD.symm.trans g1
    simp only [RoadKit.slotOf, g2, gV, gC, Option.map_some, Option.getD_some] at n1 n2
    exact ⟨E', cf, k, i, f, q1.1, g2, g3, by rw [q2.1]; exact g4, by rw [q2.1]; exact g5, by rw [q2.2.1]; exact g6, by rw [q2.2.2 f.slot (by simp [n1, n2])]; exact g7⟩
end StrChars.Road
namespace StrChars.Road
open Jvm Sem ClassFile Op Lib Jvm.Stand Jvm.Free Jvm.Free.XT
/-- WHAT COMES BACK, the byte[] as a list of values -/
def QA (Z : State) (x : Addr) (zn : Int32) (cs : List Int32) (h : Heap) (v : Option Value) (h' : Heap) (L : List Loc) : Prop := v = none ∧ (∀ y ∈ L, y.base = x) ∧ RoadKit.Keep h h' [x] ∧ h'.size = h.size + 1 ∧ RoadKit.Exa Z h' x ST ∧ RoadKit.Fld Z h' x ST "value" "[B" (.ref h.size) ∧ RoadKit.Fld Z h' x ST "coder" "B" (.int 0) ∧
  (∃ kb, Z.vm.findClass "[B" = some kb ∧ RoadKit.Arv Z h' h.size kb .byte zn (cs.map fun c => .int (lo8 c)) (.int 0)) ∧
  ∀ (O n d : String) (w : Value), RoadKit.Fld Z h x O n d w → RoadKit.slotOf Z O n d ≠ RoadKit.slotOf Z ST "value" "[B" → RoadKit.slotOf Z O n d ≠ RoadKit.slotOf Z ST "coder" "B" → RoadKit.Fld Z h' x O n d w
/-- **new String(chars) AT A CALL, THE ARRAYS AS LISTS**: the char[] at b holds cs, not empty, no char above 255 -/
theorem backArv {p : Program} {l : Launch} {e : Env} {R : Room} {s : State} {args : Array Value} {below : List Frame} {len W : Nat} {Z : State} {a0 : Array Value} {h : Heap} (hZ : Z.Warmed39 s.vm) (hw : ∀ d ∈ words, d.before a0 Z = true) {kI : Nat} (wi : (Jvm.Cond.instantiable ST kI).before a0 Z = true)
    {x b : Addr} {k : ClassId} {zn z : Int32} {cs : List Int32} {dv v0 c0 : Value} (E : RoadKit.Exa Z h x ST) (V : RoadKit.Fld Z h x ST "value" "[B" v0) (C : RoadKit.Fld Z h x ST "coder" "B" c0) (K : RoadKit.Arv Z h b k .char zn (cs.map Value.int) dv) (S : RoadKit.Sta Z h ST "COMPACT_STRINGS" "Z" (.int z)) (hz : ¬ z = 0)
    (hlen : zn.toNatClampNeg = cs.length) (h0 : 0 < cs.length) (hbig : cs.length ≤ 536870912) (hall : ∀ c ∈ cs, ¬ 255 < c) (hfr : 4 ≤ R.frames) (hlo : W + 65 ≤ R.locals) :
    Back l R p e below s args New1.yN len W (fun P a => a = #[.ref x, .ref b] ∧ P.U.heap = h ∧ P.cells + 1 ≤ R.cells ∧ P.slots + cs.length ≤ R.slots)
      (fun P _ v B => ∃ L, QA Z x zn cs h v B.U.heap L ∧ B.locs = P.locs ++ L ∧ B.cells = P.cells + 1 ∧ B.slots = P.slots + cs.length) := by
  obtain ⟨A, K1, K2, K3, K4, K5, K6⟩ := K
  have e : A.slots.size = cs.length := K3.trans hlen
  have hat : ∀ (i : Nat) (hi : i < cs.length), A.slots[i]? = some (.int cs[i]) := fun i hi => by rw [K5 i (by omega)]; simp [List.getD_eq_getElem?_getD, hi]
  have hcv : ∀ (i : Nat) (hi : i < cs.length), cv A i = cs[i] := fun i hi => by unfold cv; rw [hat i hi]
  have hty : Typed .char A := fun i v hv => by
    have hi : i < A.slots.size := (Array.getElem?_eq_some_iff.mp hv).1
    have q := K5 i hi
    rw [hv] at q
    rw [Option.some.inj q]
    exact K6 i hi
  refine Back.mono (back hZ hw wi E V C K1 hty S hz (by omega) (by omega) (fun i hi => by rw [hcv i (by omega)]; exact hall _ (List.getElem_mem _)) hfr hlo) (fun P a hp => ⟨hp.1, hp.2.1, hp.2.2.1, by rw [e]; exact hp.2.2.2⟩) (fun P a v B hp hq => ?_)
  obtain ⟨L, ⟨q1, q2, q3, q4, q5, q6, q7, ⟨V', v1, v2, v3, v4, v5⟩, q9⟩, hl, hc, hs⟩ := hq
  refine ⟨L, ⟨q1, q2, q3, q4, q5, q6, q7, ⟨V'.cls, v3, V', v1, rfl, by rw [v4, e, hlen], K4, fun i hi => ?_, fun i hi => ?_⟩, q9⟩, hl, hc, by rw [hs, e]⟩
  · have hi' : i < cs.length := by omega
    rw [v5 i (by omega), hcv i hi']; simp [List.getD_eq_getElem?_getD, hi']
  · have hi' : i < cs.length := by omega
    simp only [List.getD_eq_getElem?_getD, List.getElem?_map, List.getElem?_eq_getElem hi', Option.map_some, Option.getD_some]
    exact fits_lo8 _
end StrChars.Road
namespace StrChars.Road
open Jvm Sem ClassFile Op Lib Jvm.Stand Jvm.Free Jvm.Free.XT
/-- WHAT COMES BACK, in the writer's own shape -/
def QV (Z : State) (x : Addr) (N : Int32) (bs : List Int32) (h : Heap) (n0 : Nat) (v : Option Value) (h' : Heap) (L : List Loc) : Prop := v = none ∧ RoadKit.Fr n0 L ∧ RoadKit.Keep h h' [x] ∧ RoadKit.Exa Z h' x ST ∧ RoadKit.Fld Z h' x ST "coder" "B" (.int 0) ∧
  ∃ (t : Addr) (kb : ClassId), n0 ≤ t ∧ h.size ≤ t ∧ ¬ t = x ∧ RoadKit.Fld Z h' x ST "value" "[B" (.ref t) ∧ RoadKit.Arv Z h' t kb .byte N (bs.map Value.int) (.int 0)
/-- **new String(chars) AT A CALL, FOR THE WRITER**: a char[] of n known ints, each 0 to 255 -/
theorem backV {p : Program} {l : Launch} {e : Env} {R : Room} {s : State} {args : Array Value} {below : List Frame} {len W : Nat} {Z : State} {a0 : Array Value} {h : Heap} (hZ : Z.Warmed39 s.vm) (hw : ∀ d ∈ words, d.before a0 Z = true) {kI : Nat} (wi : (Jvm.Cond.instantiable ST kI).before a0 Z = true)
    {x b : Addr} {kC : ClassId} {cs bs : List Int32} {d v0 c0 : Value} {z N : Int32} {n n0 : Nat} (hx0 : n0 ≤ x) (hh0 : n0 ≤ h.size) (E : RoadKit.Exa Z h x ST) (V : RoadKit.Fld Z h x ST "value" "[B" v0) (C : RoadKit.Fld Z h x ST "coder" "B" c0) (K : RoadKit.Arv Z h b kC .char N (cs.map Value.int) d) (S : RoadKit.Sta Z h ST "COMPACT_STRINGS" "Z" (.int z)) (hz : ¬ z = 0)
    (hn : cs.length = n) (hN : N = Int32.ofNat n) (l0 : 0 < n) (l2 : n ≤ 4000) (hp : ∀ c ∈ cs, ¬ c < 0 ∧ ¬ (255 : Int32) < c) (hb : bs = cs.map (fun c => c.toInt8.toInt32)) (hfr : 4 ≤ R.frames) (hlo : W + 65 ≤ R.locals) :
    Back l R p e below s args (⟨"java/lang/String", "<init>", "([C)V"⟩ : MethodName) len W (fun P a => a = #[.ref x, .ref b] ∧ P.U.heap = h ∧ P.cells + 1 ≤ R.cells ∧ P.slots + n ≤ R.slots)
      (fun P _ v B => ∃ L, QV Z x N bs h n0 v B.U.heap L ∧ B.locs = P.locs ++ L ∧ B.cells = P.cells + 1 ∧ B.slots = P.slots + n) := by
  subst hn hN hb
  refine Back.mono (backArv hZ hw wi E V C K S hz (n32 (by omega)) l0 (by omega) (fun c hc => (hp c hc).2) hfr hlo) (fun P a hp => hp) (fun P a v B hp hq => ?_)
  obtain ⟨L, ⟨q1, q2, q3, q4, q5, q6, q7, ⟨kb, v1, v2⟩, q9⟩, hl, hc, hs⟩ := hq
  exact ⟨L, ⟨q1, fun y hy => by rw [q2 y hy]; exact hx0, q3, q5, q7, h.size, kb, hh0, Nat.le_refl _, Nat.ne_of_gt E.lt, q6, by rw [List.map_map]; exact v2⟩, hl, hc, hs⟩
end StrChars.Road
end Jvm.Pilot.@@N@@

namespace Jvm.Pilot.@@N@@
open Jvm Jvm.ClassFile Sem Op Lib Jvm.Free Jvm.Stand Jvm.LawKit Jvm.RoadKit Bundle Jvm.Own Jvm.Pilot.@@N@@.Jvm.D
theorem d9_0 : decode jdk_29_method_66_code 0 = .ok (.lload_n 0, 1) := by decide +kernel
theorem d9_1 : decode jdk_29_method_66_code 1 = .ok (.lload_n 2, 1) := by decide +kernel
theorem d9_2 : decode jdk_29_method_66_code 2 = .ok (.lcmp, 1) := by decide +kernel
theorem d9_3 : decode jdk_29_method_66_code 3 = .ok (.ifCond .lt 7, 3) := by decide +kernel
theorem d9_10 : decode jdk_29_method_66_code 10 = .ok (.lload_n 2, 1) := by decide +kernel
theorem d9_11 : decode jdk_29_method_66_code 11 = .ok (.lreturn, 1) := by decide +kernel
theorem d9_6 : decode jdk_29_method_66_code 6 = .ok (.lload_n 0, 1) := by decide +kernel
theorem d9_7 : decode jdk_29_method_66_code 7 = .ok (.goto 4, 3) := by decide +kernel
theorem d10_0 : decode jdk_29_method_70_code 0 = .ok (.lload_n 0, 1) := by decide +kernel
theorem d10_1 : decode jdk_29_method_70_code 1 = .ok (.lload_n 2, 1) := by decide +kernel
theorem d10_2 : decode jdk_29_method_70_code 2 = .ok (.lcmp, 1) := by decide +kernel
theorem d10_3 : decode jdk_29_method_70_code 3 = .ok (.ifCond .gt 7, 3) := by decide +kernel
theorem d10_10 : decode jdk_29_method_70_code 10 = .ok (.lload_n 2, 1) := by decide +kernel
theorem d10_11 : decode jdk_29_method_70_code 11 = .ok (.lreturn, 1) := by decide +kernel
theorem d10_6 : decode jdk_29_method_70_code 6 = .ok (.lload_n 0, 1) := by decide +kernel
theorem d10_7 : decode jdk_29_method_70_code 7 = .ok (.goto 4, 3) := by decide +kernel
theorem pn_java_lang_Record : plainName "java/lang/Record" = true := by first | (simp [plainName, overriddenIn]; done) | decide +kernel
theorem d8_0 : decode jdk_30_method_1_code 0 = .ok (.aload_n 0, 1) := by decide +kernel
theorem d8_1 : decode jdk_30_method_1_code 1 = .ok (.invokespecial 1, 3) := by decide +kernel
theorem d8_4 : decode jdk_30_method_1_code 4 = .ok (.return_, 1) := by decide +kernel
theorem pn_com_example_faultloom_faultloom_analysis_RangeFilter : plainName "com/example/faultloom/faultloom/analysis/RangeFilter" = true := by first | (simp [plainName, overriddenIn]; done) | decide +kernel
theorem d7_0 : decode prog_25_method_1_code 0 = .ok (.aload_n 0, 1) := by decide +kernel
theorem d7_1 : decode prog_25_method_1_code 1 = .ok (.invokespecial 1, 3) := by decide +kernel
theorem pd___V : parseMethodDescriptor "()V" = some ⟨[], none⟩ := by decide +kernel
theorem d7_4 : decode prog_25_method_1_code 4 = .ok (.aload_n 0, 1) := by decide +kernel
theorem d7_5 : decode prog_25_method_1_code 5 = .ok (.aload_n 1, 1) := by decide +kernel
theorem d7_6 : decode prog_25_method_1_code 6 = .ok (.putfield 7, 3) := by decide +kernel
theorem d7_9 : decode prog_25_method_1_code 9 = .ok (.aload_n 0, 1) := by decide +kernel
theorem d7_10 : decode prog_25_method_1_code 10 = .ok (.dload_n 2, 1) := by decide +kernel
theorem d7_11 : decode prog_25_method_1_code 11 = .ok (.putfield 13, 3) := by decide +kernel
theorem d7_14 : decode prog_25_method_1_code 14 = .ok (.aload_n 0, 1) := by decide +kernel
theorem d7_15 : decode prog_25_method_1_code 15 = .ok (.dload 4, 2) := by decide +kernel
theorem d7_17 : decode prog_25_method_1_code 17 = .ok (.putfield 17, 3) := by decide +kernel
theorem d7_20 : decode prog_25_method_1_code 20 = .ok (.return_, 1) := by decide +kernel
theorem d11_0 : decode prog_25_method_2_code 0 = .ok (.aload_n 0, 1) := by decide +kernel
theorem d11_1 : decode prog_25_method_2_code 1 = .ok (.getfield 13, 3) := by decide +kernel
theorem d11_4 : decode prog_25_method_2_code 4 = .ok (.dload_n 1, 1) := by decide +kernel
theorem d11_5 : decode prog_25_method_2_code 5 = .ok (.dcmp .g, 1) := by decide +kernel
theorem d11_6 : decode prog_25_method_2_code 6 = .ok (.ifCond .gt 16, 3) := by decide +kernel
theorem d11_22 : decode prog_25_method_2_code 22 = .ok (.iconst 0, 1) := by decide +kernel
theorem d11_23 : decode prog_25_method_2_code 23 = .ok (.ireturn, 1) := by decide +kernel
theorem d11_9 : decode prog_25_method_2_code 9 = .ok (.dload_n 1, 1) := by decide +kernel
theorem d11_10 : decode prog_25_method_2_code 10 = .ok (.aload_n 0, 1) := by decide +kernel
theorem d11_11 : decode prog_25_method_2_code 11 = .ok (.getfield 17, 3) := by decide +kernel
theorem d11_14 : decode prog_25_method_2_code 14 = .ok (.dcmp .g, 1) := by decide +kernel
theorem d11_15 : decode prog_25_method_2_code 15 = .ok (.ifCond .gt 7, 3) := by decide +kernel
theorem d11_18 : decode prog_25_method_2_code 18 = .ok (.iconst 1, 1) := by decide +kernel
theorem d11_19 : decode prog_25_method_2_code 19 = .ok (.goto 4, 3) := by decide +kernel
theorem pn_com_example_faultloom_faultloom_analysis_RangeFilterKeepsPinLaw : plainName "com/example/faultloom/faultloom/analysis/RangeFilterKeepsPinLaw" = true := by first | (simp [plainName, overriddenIn]; done) | decide +kernel
theorem pd___C_V : parseMethodDescriptor "([C)V" = some ⟨[(.array .char)], none⟩ := by decide +kernel
theorem pd__Ljava_lang_String_DD_V : parseMethodDescriptor "(Ljava/lang/String;DD)V" = some ⟨[(.object "java/lang/String"), .double, .double], none⟩ := by decide +kernel
theorem pd__JJ_J : parseMethodDescriptor "(JJ)J" = some ⟨[.long, .long], some .long⟩ := by decide +kernel
theorem pd__D_Z : parseMethodDescriptor "(D)Z" = some ⟨[.double], some .boolean⟩ := by decide +kernel
theorem own_lc_lt {x y : Int64} : lcmpW x y < 0 ↔ x < y := by
  unfold lcmpW
  by_cases h : y < x
  · have : ¬ x < y := by rw [Int64.lt_iff_toInt_lt] at h ⊢; omega
    simp [h, this]
  · by_cases q : x = y
    · subst q; simp [h]
    · have : x < y := by rw [Int64.lt_iff_toInt_lt] at h ⊢; have : x.toInt ≠ y.toInt := fun z => q (Int64.toInt_inj.mp z); omega
      simp +decide [h, q, this]
theorem own_lc_gt {x y : Int64} : 0 < lcmpW x y ↔ y < x := by
  unfold lcmpW
  by_cases h : y < x
  · simp +decide [h]
  · by_cases q : x = y
    · subst q; simp [h]
    · simp +decide [h, q]
theorem own_lc_ne {x y : Int64} : ¬ lcmpW x y = 0 ↔ ¬ x = y := by
  unfold lcmpW
  by_cases h : y < x
  · have : ¬ x = y := fun q => by subst q; rw [Int64.lt_iff_toInt_lt] at h; omega
    simp +decide [h, this]
  · by_cases q : x = y
    · subst q; simp [h]
    · simp +decide [h, q]
theorem own_max1 {a n : Int64} : ¬ lcmpW (if a < n then n else a) n = 0 ↔ n < a := by
  rw [own_lc_ne]
  by_cases h : a < n
  · have : ¬ n < a := by rw [Int64.lt_iff_toInt_lt] at h ⊢; omega
    simp [h, this]
  · rw [if_neg h]
    constructor
    · intro q; rw [Int64.lt_iff_toInt_lt] at h ⊢; have : a.toInt ≠ n.toInt := fun z => q (Int64.toInt_inj.mp z); omega
    · intro q z; subst z; exact h q
theorem own_min1 {a n : Int64} : ¬ lcmpW (if n < a then n else a) n = 0 ↔ a < n := by
  rw [own_lc_ne]
  by_cases h : n < a
  · have : ¬ a < n := by rw [Int64.lt_iff_toInt_lt] at h ⊢; omega
    simp [h, this]
  · rw [if_neg h]
    constructor
    · intro q; rw [Int64.lt_iff_toInt_lt] at h ⊢; have : a.toInt ≠ n.toInt := fun z => q (Int64.toInt_inj.mp z); omega
    · intro q z; subst z; exact h q
theorem own_if0 {P : Prop} [Decidable P] : (if P then (0 : Int32) else 1) = 0 ↔ P := by by_cases h : P <;> simp [h]
theorem own_nat (x : Int32) : ∃ k : Nat, k < 256 ∧ x &&& 255 = Int32.ofNat k := by
  have h : (x &&& 255).toBitVec.toNat < 256 := by
    simp only [Int32.toBitVec_and, BitVec.toNat_and]
    exact Nat.lt_succ_of_le Nat.and_le_right
  refine ⟨_, h, ?_⟩
  apply Int32.toBitVec_inj.mp
  show _ = BitVec.ofNat 32 _
  rw [BitVec.ofNat_toNat]; simp
theorem own_255 (x : Int32) : ¬ x &&& 255 < 0 ∧ ¬ (255 : Int32) < x &&& 255 := by
  obtain ⟨k, hk, e⟩ := own_nat x
  rw [e]; exact (by decide +kernel : ∀ k, k < 256 → ¬ Int32.ofNat k < 0 ∧ ¬ (255 : Int32) < Int32.ofNat k) k hk
theorem own_nc (x : Int32) : nar .char (x &&& 255) = x &&& 255 := i2c_mask x
theorem own_rem3 (x : Int32) : ∃ k : Nat, k < 3 ∧ (x &&& 2147483647) % 3 = Int32.ofNat k := by
  have h : (x &&& 2147483647).toBitVec.toNat < 2147483648 := by
    simp only [Int32.toBitVec_and, BitVec.toNat_and]
    exact Nat.lt_succ_of_le Nat.and_le_right
  have e0 : 0 ≤ (x &&& 2147483647).toInt := by
    show 0 ≤ (x &&& 2147483647).toBitVec.toInt
    rw [BitVec.toInt_eq_toNat_of_lt (by omega)]; exact Int.natCast_nonneg _
  have e1 : ((x &&& 2147483647) % 3).toInt = (x &&& 2147483647).toInt.tmod 3 := by rw [Int32.toInt_mod]; rfl
  have a1 := Int.tmod_nonneg 3 e0
  have a2 := Int.tmod_lt_of_pos (x &&& 2147483647).toInt (show (0 : Int) < 3 by decide)
  refine ⟨((x &&& 2147483647) % 3).toInt.toNat, by omega, ?_⟩
  apply Int32.toInt_inj.mp
  rw [Int32.toInt_ofNat_of_lt (by rw [e1]; omega), e1]; omega
theorem own_b53 (x : Int32) : B53 x.toInt64 := by
  have h1 := Int32.le_toInt x
  have h2 := Int32.toInt_lt x
  have e : x.toInt64.toInt = x.toInt := Int32.toInt_toInt64 x
  constructor <;> rw [e] <;> omega
theorem own_near (x : Int32) (k : Nat) (hk : k < 3) : B53 (x.toInt64 + ((Int32.ofNat k).toInt64 - 1)) := by
  have h1 := Int32.le_toInt x
  have h2 := Int32.toInt_lt x
  have e : x.toInt64.toInt = x.toInt := Int32.toInt_toInt64 x
  have d1 : ((Int32.ofNat k).toInt64 - 1).toInt = (k : Int) - 1 := (by decide : ∀ k, k < 3 → ((Int32.ofNat k).toInt64 - 1).toInt = (k : Int) - 1) k hk
  have d2 : B53 ((Int32.ofNat k).toInt64 - 1) := by constructor <;> rw [d1] <;> omega
  have s := add64 (own_b53 x) d2
  rw [e, d1] at s
  constructor <;> rw [s] <;> omega
set_option maxRecDepth 65536 in
set_option maxHeartbeats 40000000 in
theorem rm_max (l : Launch) (Z : State) (a0 : Array Value) (hw : ∀ d ∈ tables_1, d.before a0 Z = true) (p1 p2 : Int64) (h0 : Heap) (n0 : Nat)  :
    Ct l Z (⟨"java/lang/Math", "max", "(JJ)J"⟩ : MethodName) jdk_29_method_66_code 4 (some .long) [] ({ frames := 0, cells := 0, slots := 0, locals := 0 } : Room) #[.long p1, .long p2] h0 n0 (fun v h => v = some (.long (if p1 < p2 then p2 else p1)) ∧ h0 = h) := by
  refine Ct.of (L0 := #[.val (.long p1), .second, .val (.long p2), .second]) (Jvm.Free.JP.mathPlain rfl (by decide +kernel)) (fun m => by first | (simp [entryFrame, mkF, argsToLocals, Value.category]; done) | rfl) ?_
  intro p e s m below meth c C hnm
  refine Go.lloadN C d9_0 rfl (pc' := 1) rfl ?_
  refine Go.lloadN C d9_1 rfl (pc' := 2) rfl ?_
  refine Go.lcmp C d9_2 (pc' := 3) rfl ?_
  refine Go.if_lt C d9_3 (by decide) (pc1 := 10) (by decide) (pc2 := 6) rfl (fun hc => ?_) (fun hc => ?_)
  · refine Go.lloadN C d9_10 rfl (pc' := 11) rfl ?_
    refine Go.retL C d9_11 (by decide) (by decide) ?_
    exact ⟨by rw [if_pos (own_lc_lt.mp hc)], rfl⟩
  · refine Go.lloadN C d9_6 rfl (pc' := 7) rfl ?_
    refine Go.goto C d9_7 (by decide) (pc' := 11) (by decide) ?_
    refine Go.retL C d9_11 (by decide) (by decide) ?_
    exact ⟨by rw [if_neg (fun q => hc (own_lc_lt.mpr q))], rfl⟩
set_option maxRecDepth 65536 in
set_option maxHeartbeats 40000000 in
theorem rm_min (l : Launch) (Z : State) (a0 : Array Value) (hw : ∀ d ∈ tables_1, d.before a0 Z = true) (p1 p2 : Int64) (h0 : Heap) (n0 : Nat)  :
    Ct l Z (⟨"java/lang/Math", "min", "(JJ)J"⟩ : MethodName) jdk_29_method_70_code 4 (some .long) [] ({ frames := 0, cells := 0, slots := 0, locals := 0 } : Room) #[.long p1, .long p2] h0 n0 (fun v h => v = some (.long (if p2 < p1 then p2 else p1)) ∧ h0 = h) := by
  refine Ct.of (L0 := #[.val (.long p1), .second, .val (.long p2), .second]) (Jvm.Free.JP.mathPlain rfl (by decide +kernel)) (fun m => by first | (simp [entryFrame, mkF, argsToLocals, Value.category]; done) | rfl) ?_
  intro p e s m below meth c C hnm
  refine Go.lloadN C d10_0 rfl (pc' := 1) rfl ?_
  refine Go.lloadN C d10_1 rfl (pc' := 2) rfl ?_
  refine Go.lcmp C d10_2 (pc' := 3) rfl ?_
  refine Go.if_gt C d10_3 (by decide) (pc1 := 10) (by decide) (pc2 := 6) rfl (fun hc => ?_) (fun hc => ?_)
  · refine Go.lloadN C d10_10 rfl (pc' := 11) rfl ?_
    refine Go.retL C d10_11 (by decide) (by decide) ?_
    exact ⟨by rw [if_pos (own_lc_gt.mp hc)], rfl⟩
  · refine Go.lloadN C d10_6 rfl (pc' := 7) rfl ?_
    refine Go.goto C d10_7 (by decide) (pc' := 11) (by decide) ?_
    refine Go.retL C d10_11 (by decide) (by decide) ?_
    exact ⟨by rw [if_neg (fun q => hc (own_lc_gt.mpr q))], rfl⟩
set_option maxRecDepth 65536 in
set_option maxHeartbeats 40000000 in
theorem rm_rec (l : Launch) (Z : State) (a0 : Array Value) (hw : ∀ d ∈ tables_1, d.before a0 Z = true) (a1 : Addr) (h0 : Heap) (n0 : Nat)  :
    Ct l Z (⟨"java/lang/Record", "<init>", "()V"⟩ : MethodName) jdk_30_method_1_code 1 none [] ({ frames := 1, cells := 0, slots := 0, locals := 12 } : Room) #[.ref a1] h0 n0 (fun v h => v = none ∧ h0 = h) := by
  refine Ct.of (L0 := #[.val (.ref a1)]) (plainFor_of_name pn_java_lang_Record) (fun m => by first | (simp [entryFrame, mkF, argsToLocals, Value.category]; done) | rfl) ?_
  intro p e s m below meth c C hnm
  refine Go.aloadN C d8_0 rfl rfl (pc' := 1) rfl ?_
  refine Go.initO C d8_1 (hw _ (List.mem_of_getElem? (i := 41) rfl)) (hw _ (List.mem_of_getElem? (i := 15) rfl)) (hw _ (List.mem_of_getElem? (i := 16) rfl)) rfl (by decide) (by decide) (pc' := 4) rfl ?_
  refine Go.retV C d8_4 (by decide) (by decide) ?_
  exact ⟨rfl, rfl⟩
set_option maxRecDepth 65536 in
set_option maxHeartbeats 40000000 in
theorem rm_rf (l : Launch) (Z : State) (a0 : Array Value) (hw : ∀ d ∈ tables_1, d.before a0 Z = true) (a1 b1 : Addr) (d1 d2 : UInt64) (c0 l0 g0 : Value) (h0 : Heap) (n0 : Nat) (na : n0 ≤ a1) (E : Exa Z h0 a1 "com/example/faultloom/faultloom/analysis/RangeFilter") (Fc : Fld Z h0 a1 "com/example/faultloom/faultloom/analysis/RangeFilter" "column" "Ljava/lang/String;" c0) (Fl : Fld Z h0 a1 "com/example/faultloom/faultloom/analysis/RangeFilter" "low" "D" l0) (Fh : Fld Z h0 a1 "com/example/faultloom/faultloom/analysis/RangeFilter" "high" "D" g0) :
    Ct l Z (⟨"com/example/faultloom/faultloom/analysis/RangeFilter", "<init>", "(Ljava/lang/String;DD)V"⟩ : MethodName) prog_25_method_1_code 6 none [] ({ frames := 2, cells := 0, slots := 0, locals := 24 } : Room) #[.ref a1, .ref b1, .double d1, .double d2] h0 n0 (fun v h => v = none ∧ Keep h0 h [a1] ∧ Exa Z h a1 "com/example/faultloom/faultloom/analysis/RangeFilter" ∧ Fld Z h a1 "com/example/faultloom/faultloom/analysis/RangeFilter" "low" "D" (.double d1) ∧ Fld Z h a1 "com/example/faultloom/faultloom/analysis/RangeFilter" "high" "D" (.double d2)) := by
  refine Ct.of (L0 := #[.val (.ref a1), .val (.ref b1), .val (.double d1), .second, .val (.double d2), .second]) (plainFor_of_name pn_com_example_faultloom_faultloom_analysis_RangeFilter) (fun m => by first | (simp [entryFrame, mkF, argsToLocals, Value.category]; done) | rfl) ?_
  intro p e s m below meth c C hnm
  refine Go.aloadN C d7_0 rfl rfl (pc' := 1) rfl ?_
  refine Go.callN C d7_1 rfl (hw _ (List.mem_of_getElem? (i := 36) rfl)) (hw _ (List.mem_of_getElem? (i := 37) rfl)) (hw _ (List.mem_of_getElem? (i := 40) rfl)) (by decide) (argsL := []) (rest := []) rfl (lenOf pd___V rfl) rfl (W := 0) (Nat.le_of_ble_eq_true rfl) (Ct.pay (rm_rec l Z a0 hw a1 h0 n0) (hw _ (List.mem_of_getElem? (i := 40) rfl)) (hw _ (List.mem_of_getElem? (i := 39) rfl)) (by decide) (by decide)) (fun _ _ _ q => q.2) (by decide) (by decide) (fun _ _ _ _ _ q => q) (pc' := 4) rfl ?_
  rintro _ _ L1 ⟨⟨rfl, rfl⟩, -⟩
  show Go p l e _ s m _ below meth c Z _ n0 _ _ _ _ _ 4 #[.val (.ref a1), .val (.ref b1), .val (.double d1), .second, .val (.double d2), .second] []
  refine Go.aloadN C d7_4 rfl rfl (pc' := 5) rfl ?_
  refine Go.aloadN C d7_5 rfl rfl (pc' := 6) rfl ?_
  refine Go.putF C d7_6 (hw _ (List.mem_of_getElem? (i := 42) rfl)) Via.refl Fc E (Or.inr ⟨(hw _ (List.mem_of_getElem? (i := 43) rfl)), rfl, hnm⟩) (hw _ (List.mem_of_getElem? (i := 2) rfl)) (ty := (.object "java/lang/String")) (by decide) rfl rfl na (fun _ _ _ q => q) (pc' := 9) rfl ?_
  intro h1 W1
  have E1 := E.wr W1
  have Fl1 := Fl.other W1 (Or.inr (slot_ne (C := "com/example/faultloom/faultloom/analysis/RangeFilter") (Or.inr (hw _ (List.mem_of_getElem? (i := 45) rfl))) (Or.inr (hw _ (List.mem_of_getElem? (i := 43) rfl))) (by decide) (t := .double) (t' := (.object "java/lang/String")) (by decide) (by decide)))
  have Fh1 := Fh.other W1 (Or.inr (slot_ne (C := "com/example/faultloom/faultloom/analysis/RangeFilter") (Or.inr (hw _ (List.mem_of_getElem? (i := 47) rfl))) (Or.inr (hw _ (List.mem_of_getElem? (i := 43) rfl))) (by decide) (t := .double) (t' := (.object "java/lang/String")) (by decide) (by decide)))
  refine Go.aloadN C d7_9 rfl rfl (pc' := 10) rfl ?_
  refine Go.dloadN C d7_10 rfl (pc' := 11) rfl ?_
  refine Go.putF C d7_11 (hw _ (List.mem_of_getElem? (i := 44) rfl)) Via.refl Fl1 E1 (Or.inr ⟨(hw _ (List.mem_of_getElem? (i := 45) rfl)), rfl, hnm⟩) (hw _ (List.mem_of_getElem? (i := 2) rfl)) (ty := .double) (by decide) rfl rfl na (fun _ _ _ q => q) (pc' := 14) rfl ?_
  intro h2 W2
  have E2 := E1.wr W2
  have Fl2 := Fl1.same W2
  have Fh2 := Fh1.other W2 (Or.inr (slot_ne (C := "com/example/faultloom/faultloom/analysis/RangeFilter") (Or.inr (hw _ (List.mem_of_getElem? (i := 47) rfl))) (Or.inr (hw _ (List.mem_of_getElem? (i := 45) rfl))) (by decide) (t := .double) (t' := .double) (by decide) (by decide)))
  refine Go.aloadN C d7_14 rfl rfl (pc' := 15) rfl ?_
  refine Go.dload C d7_15 rfl (pc' := 17) rfl ?_
  refine Go.putF C d7_17 (hw _ (List.mem_of_getElem? (i := 46) rfl)) Via.refl Fh2 E2 (Or.inr ⟨(hw _ (List.mem_of_getElem? (i := 47) rfl)), rfl, hnm⟩) (hw _ (List.mem_of_getElem? (i := 2) rfl)) (ty := .double) (by decide) rfl rfl na (fun _ _ _ q => q) (pc' := 20) rfl ?_
  intro h3 W3
  have E3 := E2.wr W3
  have Fl3 := Fl2.other W3 (Or.inr (slot_ne (C := "com/example/faultloom/faultloom/analysis/RangeFilter") (Or.inr (hw _ (List.mem_of_getElem? (i := 45) rfl))) (Or.inr (hw _ (List.mem_of_getElem? (i := 47) rfl))) (by decide) (t := .double) (t' := .double) (by decide) (by decide)))
  have Fh3 := Fh2.same W3
  have K3 : Keep h0 h3 [a1] := (((Keep.refl _ _).wr W1 (Or.inl (List.mem_singleton.mpr rfl))).wr W2 (Or.inl (List.mem_singleton.mpr rfl))).wr W3 (Or.inl (List.mem_singleton.mpr rfl))
  refine Go.retV C d7_20 (by decide) (by decide) ?_
  exact ⟨rfl, K3, E3, Fl3, Fh3⟩
set_option maxRecDepth 65536 in
set_option maxHeartbeats 40000000 in
theorem rm_keeps (l : Launch) (Z : State) (a0 : Array Value) (hw : ∀ d ∈ tables_1, d.before a0 Z = true) (a1 : Addr) (lo hi n : Int64) (h0 : Heap) (n0 : Nat) (Fl : Fld Z h0 a1 "com/example/faultloom/faultloom/analysis/RangeFilter" "low" "D" (.double (FP.l2d lo))) (Fh : Fld Z h0 a1 "com/example/faultloom/faultloom/analysis/RangeFilter" "high" "D" (.double (FP.l2d hi))) (bl : B53 lo) (bh : B53 hi) (bn : B53 n) :
    Ct l Z (⟨"com/example/faultloom/faultloom/analysis/RangeFilter", "keeps", "(D)Z"⟩ : MethodName) prog_25_method_2_code 3 (some .boolean) [] ({ frames := 0, cells := 0, slots := 0, locals := 0 } : Room) #[.ref a1, .double (FP.l2d n)] h0 n0 (fun v h => v = some (.int (if n < lo then 0 else if hi < n then 0 else 1)) ∧ h0 = h) := by
  refine Ct.of (L0 := #[.val (.ref a1), .val (.double (FP.l2d n)), .second]) (plainFor_of_name pn_com_example_faultloom_faultloom_analysis_RangeFilter) (fun m => by first | (simp [entryFrame, mkF, argsToLocals, Value.category]; done) | rfl) ?_
  intro p e s m below meth c C hnm
  refine Go.aloadN C d11_0 rfl rfl (pc' := 1) rfl ?_
  refine Go.getF C d11_1 (hw _ (List.mem_of_getElem? (i := 44) rfl)) Via.refl Fl (pc' := 4) rfl ?_
  refine Go.dloadN C d11_4 rfl (pc' := 5) rfl ?_
  refine Go.dcmp C d11_5 (v := lcmpW lo n) (dcmpV_w bl bn _) (pc' := 6) rfl ?_
  refine Go.if_gt C d11_6 (by decide) (pc1 := 22) (by decide) (pc2 := 9) rfl (fun hc => ?_) (fun hc => ?_)
  · refine Go.iconst C d11_22 (v := 0) rfl (pc' := 23) rfl ?_
    refine Go.retN C (by simp) d11_23 (by decide) (by decide) ?_
    exact ⟨by rw [if_pos (own_lc_gt.mp hc)]; rfl, rfl⟩
  · refine Go.dloadN C d11_9 rfl (pc' := 10) rfl ?_
    refine Go.aloadN C d11_10 rfl rfl (pc' := 11) rfl ?_
    refine Go.getF C d11_11 (hw _ (List.mem_of_getElem? (i := 46) rfl)) Via.refl Fh (pc' := 14) rfl ?_
    refine Go.dcmp C d11_14 (v := lcmpW n hi) (dcmpV_w bn bh _) (pc' := 15) rfl ?_
    refine Go.if_gt C d11_15 (by decide) (pc1 := 22) (by decide) (pc2 := 18) rfl (fun hd => ?_) (fun hd => ?_)
    · refine Go.iconst C d11_22 (v := 0) rfl (pc' := 23) rfl ?_
      refine Go.retN C (by simp) d11_23 (by decide) (by decide) ?_
      exact ⟨by rw [if_neg (fun q => hc (own_lc_gt.mpr q)), if_pos (own_lc_gt.mp hd)]; rfl, rfl⟩
    · refine Go.iconst C d11_18 (v := 1) rfl (pc' := 19) rfl ?_
      refine Go.goto C d11_19 (by decide) (pc' := 23) (by decide) ?_
      refine Go.retN C (by simp) d11_23 (by decide) (by decide) ?_
      exact ⟨by rw [if_neg (fun q => hc (own_lc_gt.mpr q)), if_neg (fun q => hd (own_lc_gt.mpr q))]; rfl, rfl⟩
set_option maxRecDepth 65536 in
set_option maxHeartbeats 40000000 in
theorem rm_law (l : Launch) (Z : State) (a0 : Array Value) (hw : ∀ d ∈ tables_1, d.before a0 Z = true) (x0 x1 x2 x3 x4 z : Int32) (h0 : Heap) (n0 : Nat) (Z0 : n0 ≤ h0.size) (St : Sta Z Z.heap "java/lang/String" "COMPACT_STRINGS" "Z" (.int z)) (hz : ¬ z = 0) (O0 : Old Z n0 h0) :
    Ct l Z x code 15 (some .boolean) tables_1 room_1 #[.int x0, .int x1, .int x2, .int x3, .int x4] h0 n0 (fun v _ => v = some (.int 1)) := by
  refine Ct.of (L0 := #[.val (.int x0), .val (.int x1), .val (.int x2), .val (.int x3), .val (.int x4), .unset, .unset, .unset, .unset, .unset, .unset, .unset, .unset, .unset, .unset]) (plainFor_of_name pn_com_example_faultloom_faultloom_analysis_RangeFilterKeepsPinLaw) (fun m => by first | (simp [entryFrame, mkF, argsToLocals, Value.category]; done) | rfl) ?_
  intro p e s m below meth c C hnm
  refine Go.iconst C at_0 (v := 1) rfl (pc' := 1) rfl ?_
  refine Go.newPV C bnE at_1 (hw _ (List.mem_of_getElem? (i := 0) rfl)) (by decide) (cap := 1) (by decide) (by decide) (by decide) (by decide) (pc' := 3) rfl (dv := .int 0) rfl ?_
  intro h1 kC E1 V1
  obtain ⟨ca, e_ca⟩ : ∃ a, a = h0.size := ⟨_, rfl⟩
  rw [← e_ca] at V1 ⊢
  show Go p l e room_1 s m #[.int x0, .int x1, .int x2, .int x3, .int x4] below meth c Z "com/example/faultloom/faultloom/analysis/RangeFilterKeepsPinLaw" n0 (Bn s) (EnN s room_1 n0 (fun v _ => v = some (.int 1))) _ _ _ 3 #[.val (.int x0), .val (.int x1), .val (.int x2), .val (.int x3), .val (.int x4), .unset, .unset, .unset, .unset, .unset, .unset, .unset, .unset, .unset, .unset] [(.ref ca)]
  have nca : n0 ≤ ca := e_ca ▸ Z0
  have O1 := O0.ext E1
  refine Go.dup C at_3 rfl (pc' := 4) rfl ?_
  refine Go.iconst C at_4 (v := 0) rfl (pc' := 5) rfl ?_
  refine Go.iload C at_5 rfl (pc' := 7) rfl ?_
  refine Go.sipush C at_7 (v := 255) rfl (pc' := 10) rfl ?_
  refine Go.iand C at_10 (pc' := 11) rfl ?_
  refine Go.i2c C at_11 (pc' := 12) rfl ?_
  refine Go.castoreV C at_12 V1 (by decide) (by decide) 0 (by decide) (Nat.le_of_ble_eq_true rfl) nca (fun _ _ _ q => q) (pc' := 13) rfl ?_
  intro h2 W2 V2
  rw [i2c_mask, own_nc] at V2
  have O2 := O1.wr W2 nca
  refine Go.astore C at_13 rfl (L' := #[.val (.int x0), .val (.int x1), .val (.int x2), .val (.int x3), .val (.int x4), .val (.ref ca), .unset, .unset, .unset, .unset, .unset, .unset, .unset, .unset, .unset]) rfl (pc' := 15) rfl ?_
  refine Go.newO C bnE at_15 (hw _ (List.mem_of_getElem? (i := 1) rfl)) (hw _ (List.mem_of_getElem? (i := 2) rfl)) (hw _ (List.mem_of_getElem? (i := 3) rfl)) (by decide) (by decide) (pc' := 18) rfl ?_
  intro h3 E3 A3 D3 U3
  obtain ⟨ra, e_ra⟩ : ∃ a, a = h2.size := ⟨_, rfl⟩
  rw [← e_ra] at A3 D3 U3 ⊢
  show Go p l e room_1 s m #[.int x0, .int x1, .int x2, .int x3, .int x4] below meth c Z "com/example/faultloom/faultloom/analysis/RangeFilterKeepsPinLaw" n0 (Bn s) (EnN s room_1 n0 (fun v _ => v = some (.int 1))) _ _ _ 18 #[.val (.int x0), .val (.int x1), .val (.int x2), .val (.int x3), .val (.int x4), .val (.ref ca), .unset, .unset, .unset, .unset, .unset, .unset, .unset, .unset, .unset] [(.ref ra)]
  have Z2 : n0 ≤ h2.size := Nat.le_trans (O2.1 ▸ Nat.le_refl _) O2.2.1
  have nra : n0 ≤ ra := e_ra ▸ Z2
  have O3 := O2.ext E3
  have V3 := V2.ext E3
  have Fc3 := D3 (Or.inr (hw _ (List.mem_of_getElem? (i := 43) rfl))) (ty := (.object "java/lang/String")) (by decide)
  have Fl3 := D3 (Or.inr (hw _ (List.mem_of_getElem? (i := 45) rfl))) (ty := .double) (by decide)
  have Fh3 := D3 (Or.inr (hw _ (List.mem_of_getElem? (i := 47) rfl))) (ty := .double) (by decide)
  refine Go.dup C at_18 rfl (pc' := 19) rfl ?_
  refine Go.newO C bnE at_19 (hw _ (List.mem_of_getElem? (i := 4) rfl)) (hw _ (List.mem_of_getElem? (i := 5) rfl)) (hw _ (List.mem_of_getElem? (i := 6) rfl)) (by decide) (by decide) (pc' := 22) rfl ?_
  intro h4 E4 A4 D4 U4
  obtain ⟨sa, e_sa⟩ : ∃ a, a = h3.size := ⟨_, rfl⟩
  rw [← e_sa] at A4 D4 U4 ⊢
  show Go p l e room_1 s m #[.int x0, .int x1, .int x2, .int x3, .int x4] below meth c Z "com/example/faultloom/faultloom/analysis/RangeFilterKeepsPinLaw" n0 (Bn s) (EnN s room_1 n0 (fun v _ => v = some (.int 1))) _ _ _ 22 #[.val (.int x0), .val (.int x1), .val (.int x2), .val (.int x3), .val (.int x4), .val (.ref ca), .unset, .unset, .unset, .unset, .unset, .unset, .unset, .unset, .unset] [(.ref sa), (.ref ra), (.ref ra)]
  have Z3 : n0 ≤ h3.size := Nat.le_trans Z2 E3.1
  have nsa : n0 ≤ sa := e_sa ▸ Z3
  have Z4 : n0 ≤ h4.size := Nat.le_trans Z3 E4.1
  have O4 := O3.ext E4
  have V4 := V3.ext E4
  have Sc4 := D4 (Or.inr (hw _ (List.mem_of_getElem? (i := 30) rfl))) (ty := .byte) (by decide)
  have Sv4 := D4 (Or.inr (hw _ (List.mem_of_getElem? (i := 32) rfl))) (ty := (.array .byte)) (by decide)
  have hws : ∀ d ∈ StrChars.Road.words, d.before a0 Z = true := fun d hd => hw d ((by decide +kernel : ∀ d ∈ StrChars.Road.words, d ∈ tables_1) d hd)
  have hp : ∀ c ∈ ([x4 &&& 255] : List Int32), ¬ c < 0 ∧ ¬ (255 : Int32) < c := by
    intro c hc
    simp only [List.mem_cons, List.not_mem_nil, or_false] at hc
    subst hc; exact own_255 _
  refine Go.dup C at_22 rfl (pc' := 23) rfl ?_
  refine Go.aload C at_23 rfl rfl (pc' := 25) rfl ?_
  refine Go.callN C at_25 rfl (hw _ (List.mem_of_getElem? (i := 7) rfl)) (hw _ (List.mem_of_getElem? (i := 8) rfl)) (hw _ (List.mem_of_getElem? (i := 9) rfl)) (by decide) (argsL := [(.ref ca)]) (rest := [(.ref sa), (.ref ra), (.ref ra)]) rfl (lenOf pd___C_V rfl) rfl (W := 3) (Nat.le_of_ble_eq_true rfl) (fun vm0 hZ => StrChars.Road.backV (s := s.setVm vm0) (W := 3) hZ hws (kI := 4) (hw _ (List.mem_of_getElem? (i := 5) rfl)) (cs := ([x4 &&& 255] : List Int32)) (bs := ([x4 &&& 255] : List Int32).map (fun c => c.toInt8.toInt32)) (n := 1) nsa Z4 A4 Sv4 Sc4 V4 (St.ext O4.2) hz rfl rfl (by decide) (by decide) hp rfl (by decide) (by decide)) (fun _ _ _ q => q.2.1) (by decide) (by decide) (fun _ _ _ _ _ q => q) (pc' := 28) rfl ?_
  rintro _ h5 L5 ⟨rfl, -, K5, -, -, -⟩
  show Go p l e room_1 s m #[.int x0, .int x1, .int x2, .int x3, .int x4] below meth c Z "com/example/faultloom/faultloom/analysis/RangeFilterKeepsPinLaw" n0 (Bn s) (EnN s room_1 n0 (fun v _ => v = some (.int 1))) _ _ _ 28 #[.val (.int x0), .val (.int x1), .val (.int x2), .val (.int x3), .val (.int x4), .val (.ref ca), .unset, .unset, .unset, .unset, .unset, .unset, .unset, .unset, .unset] [(.ref sa), (.ref ra), (.ref ra)]
  have rs : ra ∉ [sa] := ninS (Nat.ne_of_lt (e_sa ▸ A3.lt)) nin0
  have A5 := (A3.ext E4).keep K5
  have Fc5 := (Fc3.ext E4).keep K5 rs
  have Fl5 := (Fl3.ext E4).keep K5 rs
  have Fh5 := (Fh3.ext E4).keep K5 rs
  refine Go.iloadN C at_28 rfl (pc' := 29) rfl ?_
  refine Go.i2d C at_29 (i2d_w x0) (pc' := 30) rfl ?_
  refine Go.iloadN C at_30 rfl (pc' := 31) rfl ?_
  refine Go.i2d C at_31 (i2d_w x1) (pc' := 32) rfl ?_
  refine Go.callN C at_32 rfl (hw _ (List.mem_of_getElem? (i := 33) rfl)) (hw _ (List.mem_of_getElem? (i := 34) rfl)) (hw _ (List.mem_of_getElem? (i := 35) rfl)) (by decide) (argsL := [(.ref sa), (.double (FP.l2d x0.toInt64)), (.double (FP.l2d x1.toInt64))]) (rest := [(.ref ra)]) rfl (lenOf pd__Ljava_lang_String_DD_V rfl) rfl (W := 1) (Nat.le_of_ble_eq_true rfl) (Ct.pay (rm_rf l Z a0 hw ra sa (FP.l2d x0.toInt64) (FP.l2d x1.toInt64) _ _ _ h5 n0 nra A5 Fc5 Fl5 Fh5) (hw _ (List.mem_of_getElem? (i := 35) rfl)) (hw _ (List.mem_of_getElem? (i := 3) rfl)) (by decide) (by decide)) (fun _ _ _ q => q.2) (by decide) (by decide) (fun _ _ _ _ _ q => q) (pc' := 35) rfl ?_
  rintro _ h6 L6 ⟨⟨rfl, K6, A6, Fl6, Fh6⟩, -⟩
  show Go p l e room_1 s m #[.int x0, .int x1, .int x2, .int x3, .int x4] below meth c Z "com/example/faultloom/faultloom/analysis/RangeFilterKeepsPinLaw" n0 (Bn s) (EnN s room_1 n0 (fun v _ => v = some (.int 1))) _ _ _ 35 #[.val (.int x0), .val (.int x1), .val (.int x2), .val (.int x3), .val (.int x4), .val (.ref ca), .unset, .unset, .unset, .unset, .unset, .unset, .unset, .unset, .unset] [(.ref ra)]
  refine Go.astore C at_35 rfl (L' := #[.val (.int x0), .val (.int x1), .val (.int x2), .val (.int x3), .val (.int x4), .val (.ref ca), .val (.ref ra), .unset, .unset, .unset, .unset, .unset, .unset, .unset, .unset]) rfl (pc' := 37) rfl ?_
  refine Go.iloadN C at_37 rfl (pc' := 38) rfl ?_
  refine Go.iconst C at_38 (v := 3) rfl (pc' := 39) rfl ?_
  refine Go.iand C at_39 (pc' := 40) rfl ?_
  refine Go.istore C at_40 (L' := #[.val (.int x0), .val (.int x1), .val (.int x2), .val (.int x3), .val (.int x4), .val (.ref ca), .val (.ref ra), .val (.int (x3 &&& (3 : Int32))), .unset, .unset, .unset, .unset, .unset, .unset, .unset]) rfl (pc' := 42) rfl ?_
  refine Go.iloadN C at_42 rfl (pc' := 43) rfl ?_
  refine Go.ldcInt C at_43 (hw _ (List.mem_of_getElem? (i := 48) rfl)) (pc' := 45) rfl ?_
  refine Go.iand C at_45 (pc' := 46) rfl ?_
  refine Go.iconst C at_46 (v := 3) rfl (pc' := 47) rfl ?_
  obtain ⟨k, hk, ek⟩ := own_rem3 x2
  refine Go.irem C at_47 (by decide) (pc' := 48) rfl ?_
  rw [ek]
  refine Go.i2l C at_48 (pc' := 49) rfl ?_
  refine Go.lconst C at_49 (v := 1) rfl (pc' := 50) rfl ?_
  refine Go.lsub C at_50 (pc' := 51) rfl ?_
  refine Go.lstore C at_51 (L' := #[.val (.int x0), .val (.int x1), .val (.int x2), .val (.int x3), .val (.int x4), .val (.ref ca), .val (.ref ra), .val (.int (x3 &&& (3 : Int32))), .val (.long ((Int32.ofNat k).toInt64 - (1 : Int64))), .second, .unset, .unset, .unset, .unset, .unset]) rfl (pc' := 53) rfl ?_
  refine Go.iload C at_53 rfl (pc' := 55) rfl ?_
  refine Go.iconst C at_55 (v := 1) rfl (pc' := 56) rfl ?_
  have KB : ∀ n : Int64, B53 n → Go p l e room_1 s m #[.int x0, .int x1, .int x2, .int x3, .int x4] below meth c Z "com/example/faultloom/faultloom/analysis/RangeFilterKeepsPinLaw" n0 (Bn s) (EnN s room_1 n0 (fun v _ => v = some (.int 1))) h6 4 9 89 #[.val (.int x0), .val (.int x1), .val (.int x2), .val (.int x3), .val (.int x4), .val (.ref ca), .val (.ref ra), .val (.int (x3 &&& (3 : Int32))), .val (.long ((Int32.ofNat k).toInt64 - (1 : Int64))), .second, .val (.long n), .second, .unset, .unset, .unset] [] := by
    intro n bn
    refine Go.iloadN C at_89 rfl (pc' := 90) rfl ?_
    refine Go.i2l C at_90 (pc' := 91) rfl ?_
    refine Go.lload C at_91 rfl (pc' := 93) rfl ?_
    refine Go.callS C at_93 (hw _ (List.mem_of_getElem? (i := 49) rfl)) (hw _ (List.mem_of_getElem? (i := 50) rfl)) (hw _ (List.mem_of_getElem? (i := 51) rfl)) (hw _ (List.mem_of_getElem? (i := 52) rfl)) (by decide) (argsL := [(.long x0.toInt64), (.long n)]) (rest := []) rfl (lenOf pd__JJ_J rfl) rfl (W := 0) (Nat.le_of_ble_eq_true rfl) (Ct.pay (rm_max l Z a0 hw x0.toInt64 n h6 n0) (hw _ (List.mem_of_getElem? (i := 52) rfl)) (hw _ (List.mem_of_getElem? (i := 51) rfl)) (by decide) (by decide)) (fun _ _ _ q => q.2) (by decide) (by decide) (fun _ _ _ _ _ q => q) (pc' := 96) rfl ?_
    rintro _ _ L7 ⟨⟨rfl, rfl⟩, -⟩
    show Go p l e room_1 s m #[.int x0, .int x1, .int x2, .int x3, .int x4] below meth c Z "com/example/faultloom/faultloom/analysis/RangeFilterKeepsPinLaw" n0 (Bn s) (EnN s room_1 n0 (fun v _ => v = some (.int 1))) _ _ _ 96 #[.val (.int x0), .val (.int x1), .val (.int x2), .val (.int x3), .val (.int x4), .val (.ref ca), .val (.ref ra), .val (.int (x3 &&& (3 : Int32))), .val (.long ((Int32.ofNat k).toInt64 - (1 : Int64))), .second, .val (.long n), .second, .unset, .unset, .unset] [(.long (if x0.toInt64 < n then n else x0.toInt64))]
    refine Go.lload C at_96 rfl (pc' := 98) rfl ?_
    refine Go.lcmp C at_98 (pc' := 99) rfl ?_
    suffices KC : Go p l e room_1 s m #[.int x0, .int x1, .int x2, .int x3, .int x4] below meth c Z "com/example/faultloom/faultloom/analysis/RangeFilterKeepsPinLaw" n0 (Bn s) (EnN s room_1 n0 (fun v _ => v = some (.int 1))) h6 _ _ 109 #[.val (.int x0), .val (.int x1), .val (.int x2), .val (.int x3), .val (.int x4), .val (.ref ca), .val (.ref ra), .val (.int (x3 &&& (3 : Int32))), .val (.long ((Int32.ofNat k).toInt64 - (1 : Int64))), .second, .val (.long n), .second, .val (.int (if n < x0.toInt64 then 0 else 1)), .unset, .unset] [] by
      refine Go.if_ne C at_99 (by decide) (pc1 := 106) (by decide) (pc2 := 102) rfl (fun hc => ?_) (fun hc => ?_)
      · refine Go.iconst C at_106 (v := 0) rfl (pc' := 107) rfl ?_
        refine Go.istore C at_107 (L' := #[.val (.int x0), .val (.int x1), .val (.int x2), .val (.int x3), .val (.int x4), .val (.ref ca), .val (.ref ra), .val (.int (x3 &&& (3 : Int32))), .val (.long ((Int32.ofNat k).toInt64 - (1 : Int64))), .second, .val (.long n), .second, .val (.int (0 : Int32)), .unset, .unset]) rfl (pc' := 109) rfl ?_
        rw [if_pos (own_max1.mp hc)] at KC
        exact KC
      · refine Go.iconst C at_102 (v := 1) rfl (pc' := 103) rfl ?_
        refine Go.goto C at_103 (by decide) (pc' := 107) (by decide) ?_
        refine Go.istore C at_107 (L' := #[.val (.int x0), .val (.int x1), .val (.int x2), .val (.int x3), .val (.int x4), .val (.ref ca), .val (.ref ra), .val (.int (x3 &&& (3 : Int32))), .val (.long ((Int32.ofNat k).toInt64 - (1 : Int64))), .second, .val (.long n), .second, .val (.int (1 : Int32)), .unset, .unset]) rfl (pc' := 109) rfl ?_
        rw [if_neg (fun q => own_max1.mpr q hc)] at KC
        exact KC
    refine Go.iloadN C at_109 rfl (pc' := 110) rfl ?_
    refine Go.i2l C at_110 (pc' := 111) rfl ?_
    refine Go.lload C at_111 rfl (pc' := 113) rfl ?_
    refine Go.callS C at_113 (hw _ (List.mem_of_getElem? (i := 53) rfl)) (hw _ (List.mem_of_getElem? (i := 54) rfl)) (hw _ (List.mem_of_getElem? (i := 51) rfl)) (hw _ (List.mem_of_getElem? (i := 55) rfl)) (by decide) (argsL := [(.long x1.toInt64), (.long n)]) (rest := []) rfl (lenOf pd__JJ_J rfl) rfl (W := 0) (Nat.le_of_ble_eq_true rfl) (Ct.pay (rm_min l Z a0 hw x1.toInt64 n h6 n0) (hw _ (List.mem_of_getElem? (i := 55) rfl)) (hw _ (List.mem_of_getElem? (i := 51) rfl)) (by decide) (by decide)) (fun _ _ _ q => q.2) (by decide) (by decide) (fun _ _ _ _ _ q => q) (pc' := 116) rfl ?_
    rintro _ _ L8 ⟨⟨rfl, rfl⟩, -⟩
    show Go p l e room_1 s m #[.int x0, .int x1, .int x2, .int x3, .int x4] below meth c Z "com/example/faultloom/faultloom/analysis/RangeFilterKeepsPinLaw" n0 (Bn s) (EnN s room_1 n0 (fun v _ => v = some (.int 1))) _ _ _ 116 #[.val (.int x0), .val (.int x1), .val (.int x2), .val (.int x3), .val (.int x4), .val (.ref ca), .val (.ref ra), .val (.int (x3 &&& (3 : Int32))), .val (.long ((Int32.ofNat k).toInt64 - (1 : Int64))), .second, .val (.long n), .second, .val (.int (if n < x0.toInt64 then 0 else 1)), .unset, .unset] [(.long (if n < x1.toInt64 then n else x1.toInt64))]
    refine Go.lload C at_116 rfl (pc' := 118) rfl ?_
    refine Go.lcmp C at_118 (pc' := 119) rfl ?_
    suffices KC : Go p l e room_1 s m #[.int x0, .int x1, .int x2, .int x3, .int x4] below meth c Z "com/example/faultloom/faultloom/analysis/RangeFilterKeepsPinLaw" n0 (Bn s) (EnN s room_1 n0 (fun v _ => v = some (.int 1))) h6 _ _ 129 #[.val (.int x0), .val (.int x1), .val (.int x2), .val (.int x3), .val (.int x4), .val (.ref ca), .val (.ref ra), .val (.int (x3 &&& (3 : Int32))), .val (.long ((Int32.ofNat k).toInt64 - (1 : Int64))), .second, .val (.long n), .second, .val (.int (if n < x0.toInt64 then 0 else 1)), .val (.int (if x1.toInt64 < n then 0 else 1)), .unset] [] by
      refine Go.if_ne C at_119 (by decide) (pc1 := 126) (by decide) (pc2 := 122) rfl (fun hc => ?_) (fun hc => ?_)
      · refine Go.iconst C at_126 (v := 0) rfl (pc' := 127) rfl ?_
        refine Go.istore C at_127 (L' := #[.val (.int x0), .val (.int x1), .val (.int x2), .val (.int x3), .val (.int x4), .val (.ref ca), .val (.ref ra), .val (.int (x3 &&& (3 : Int32))), .val (.long ((Int32.ofNat k).toInt64 - (1 : Int64))), .second, .val (.long n), .second, .val (.int (if n < x0.toInt64 then 0 else 1)), .val (.int (0 : Int32)), .unset]) rfl (pc' := 129) rfl ?_
        rw [if_pos (own_min1.mp hc)] at KC
        exact KC
      · refine Go.iconst C at_122 (v := 1) rfl (pc' := 123) rfl ?_
        refine Go.goto C at_123 (by decide) (pc' := 127) (by decide) ?_
        refine Go.istore C at_127 (L' := #[.val (.int x0), .val (.int x1), .val (.int x2), .val (.int x3), .val (.int x4), .val (.ref ca), .val (.ref ra), .val (.int (x3 &&& (3 : Int32))), .val (.long ((Int32.ofNat k).toInt64 - (1 : Int64))), .second, .val (.long n), .second, .val (.int (if n < x0.toInt64 then 0 else 1)), .val (.int (1 : Int32)), .unset]) rfl (pc' := 129) rfl ?_
        rw [if_neg (fun q => own_min1.mpr q hc)] at KC
        exact KC
    suffices KC : Go p l e room_1 s m #[.int x0, .int x1, .int x2, .int x3, .int x4] below meth c Z "com/example/faultloom/faultloom/analysis/RangeFilterKeepsPinLaw" n0 (Bn s) (EnN s room_1 n0 (fun v _ => v = some (.int 1))) h6 _ _ 146 #[.val (.int x0), .val (.int x1), .val (.int x2), .val (.int x3), .val (.int x4), .val (.ref ca), .val (.ref ra), .val (.int (x3 &&& (3 : Int32))), .val (.long ((Int32.ofNat k).toInt64 - (1 : Int64))), .second, .val (.long n), .second, .val (.int (if n < x0.toInt64 then 0 else 1)), .val (.int (if x1.toInt64 < n then 0 else 1)), .val (.int (if n < x0.toInt64 then 0 else if x1.toInt64 < n then 0 else 1))] [] by
      refine Go.iload C at_129 rfl (pc' := 131) rfl ?_
      refine Go.if_eq C at_131 (by decide) (pc1 := 143) (by decide) (pc2 := 134) rfl (fun hc => ?_) (fun hc => ?_)
      · refine Go.iconst C at_143 (v := 0) rfl (pc' := 144) rfl ?_
        refine Go.istore C at_144 (L' := #[.val (.int x0), .val (.int x1), .val (.int x2), .val (.int x3), .val (.int x4), .val (.ref ca), .val (.ref ra), .val (.int (x3 &&& (3 : Int32))), .val (.long ((Int32.ofNat k).toInt64 - (1 : Int64))), .second, .val (.long n), .second, .val (.int (if n < x0.toInt64 then 0 else 1)), .val (.int (if x1.toInt64 < n then 0 else 1)), .val (.int (0 : Int32))]) rfl (pc' := 146) rfl ?_
        rw [show (if n < x0.toInt64 then (0 : Int32) else if x1.toInt64 < n then 0 else 1) = 0 from by rw [if_pos (own_if0.mp hc)]] at KC
        exact KC
      · refine Go.iload C at_134 rfl (pc' := 136) rfl ?_
        refine Go.if_eq C at_136 (by decide) (pc1 := 143) (by decide) (pc2 := 139) rfl (fun hd => ?_) (fun hd => ?_)
        · refine Go.iconst C at_143 (v := 0) rfl (pc' := 144) rfl ?_
          refine Go.istore C at_144 (L' := #[.val (.int x0), .val (.int x1), .val (.int x2), .val (.int x3), .val (.int x4), .val (.ref ca), .val (.ref ra), .val (.int (x3 &&& (3 : Int32))), .val (.long ((Int32.ofNat k).toInt64 - (1 : Int64))), .second, .val (.long n), .second, .val (.int (if n < x0.toInt64 then 0 else 1)), .val (.int (if x1.toInt64 < n then 0 else 1)), .val (.int (0 : Int32))]) rfl (pc' := 146) rfl ?_
          rw [show (if n < x0.toInt64 then (0 : Int32) else if x1.toInt64 < n then 0 else 1) = 0 from by rw [if_neg (fun q => hc (own_if0.mpr q)), if_pos (own_if0.mp hd)]] at KC
          exact KC
        · refine Go.iconst C at_139 (v := 1) rfl (pc' := 140) rfl ?_
          refine Go.goto C at_140 (by decide) (pc' := 144) (by decide) ?_
          refine Go.istore C at_144 (L' := #[.val (.int x0), .val (.int x1), .val (.int x2), .val (.int x3), .val (.int x4), .val (.ref ca), .val (.ref ra), .val (.int (x3 &&& (3 : Int32))), .val (.long ((Int32.ofNat k).toInt64 - (1 : Int64))), .second, .val (.long n), .second, .val (.int (if n < x0.toInt64 then 0 else 1)), .val (.int (if x1.toInt64 < n then 0 else 1)), .val (.int (1 : Int32))]) rfl (pc' := 146) rfl ?_
          rw [show (if n < x0.toInt64 then (0 : Int32) else if x1.toInt64 < n then 0 else 1) = 1 from by rw [if_neg (fun q => hc (own_if0.mpr q)), if_neg (fun q => hd (own_if0.mpr q))]] at KC
          exact KC
    refine Go.aload C at_146 rfl rfl (pc' := 148) rfl ?_
    refine Go.lload C at_148 rfl (pc' := 150) rfl ?_
    refine Go.l2d C at_150 (v := FP.l2d n) rfl (pc' := 151) rfl ?_
    refine Go.callV C at_151 (hw _ (List.mem_of_getElem? (i := 56) rfl)) (hw _ (List.mem_of_getElem? (i := 57) rfl)) (hw _ (List.mem_of_getElem? (i := 59) rfl)) (hw _ (List.mem_of_getElem? (i := 58) rfl)) (fun st hZ => notFace_of_selects (args := #[]) (mvT hZ (hw _ (List.mem_of_getElem? (i := 59) rfl)))) (by decide) A6 (argsL := [(.double (FP.l2d n))]) (rest := []) rfl (lenOf pd__D_Z rfl) rfl (W := 0) (Nat.le_of_ble_eq_true rfl) (Ct.pay (rm_keeps l Z a0 hw ra x0.toInt64 x1.toInt64 n h6 n0 Fl6 Fh6 (own_b53 x0) (own_b53 x1) bn) (hw _ (List.mem_of_getElem? (i := 60) rfl)) (hw _ (List.mem_of_getElem? (i := 3) rfl)) (by decide) (by decide)) (fun _ _ _ q => q.2) (by decide) (by decide) (fun _ _ _ _ _ q => q) (pc' := 154) rfl ?_
    rintro _ _ L9 ⟨⟨rfl, rfl⟩, -⟩
    show Go p l e room_1 s m #[.int x0, .int x1, .int x2, .int x3, .int x4] below meth c Z "com/example/faultloom/faultloom/analysis/RangeFilterKeepsPinLaw" n0 (Bn s) (EnN s room_1 n0 (fun v _ => v = some (.int 1))) _ _ _ 154 #[.val (.int x0), .val (.int x1), .val (.int x2), .val (.int x3), .val (.int x4), .val (.ref ca), .val (.ref ra), .val (.int (x3 &&& (3 : Int32))), .val (.long ((Int32.ofNat k).toInt64 - (1 : Int64))), .second, .val (.long n), .second, .val (.int (if n < x0.toInt64 then 0 else 1)), .val (.int (if x1.toInt64 < n then 0 else 1)), .val (.int (if n < x0.toInt64 then 0 else if x1.toInt64 < n then 0 else 1))] [(.int (if n < x0.toInt64 then 0 else if x1.toInt64 < n then 0 else 1))]
    refine Go.iload C at_154 rfl (pc' := 156) rfl ?_
    refine Go.icmp_ne_f C at_156 rfl (pc' := 159) rfl ?_
    refine Go.iconst C at_159 (v := 1) rfl (pc' := 160) rfl ?_
    refine Go.goto C at_160 (by decide) (pc' := 164) (by decide) ?_
    refine Go.retN C (by simp) at_164 (by decide) (by decide) ?_
    exact rfl
  refine Go.icmp_ne C at_56 (by decide) (pc1 := 69) (by decide) (pc2 := 59) rfl (fun hc => ?_) (fun hc => ?_)
  · refine Go.iload C at_69 rfl (pc' := 71) rfl ?_
    refine Go.iconst C at_71 (v := 2) rfl (pc' := 72) rfl ?_
    refine Go.icmp_ne C at_72 (by decide) (pc1 := 85) (by decide) (pc2 := 75) rfl (fun hd => ?_) (fun hd => ?_)
    · refine Go.iloadN C at_85 rfl (pc' := 86) rfl ?_
      refine Go.i2l C at_86 (pc' := 87) rfl ?_
      refine Go.lstore C at_87 (L' := #[.val (.int x0), .val (.int x1), .val (.int x2), .val (.int x3), .val (.int x4), .val (.ref ca), .val (.ref ra), .val (.int (x3 &&& (3 : Int32))), .val (.long ((Int32.ofNat k).toInt64 - (1 : Int64))), .second, .val (.long x2.toInt64), .second, .unset, .unset, .unset]) rfl (pc' := 89) rfl ?_
      exact KB _ (own_b53 x2)
    · refine Go.iloadN C at_75 rfl (pc' := 76) rfl ?_
      refine Go.i2l C at_76 (pc' := 77) rfl ?_
      refine Go.lload C at_77 rfl (pc' := 79) rfl ?_
      refine Go.ladd C at_79 (pc' := 80) rfl ?_
      refine Go.lstore C at_80 (L' := #[.val (.int x0), .val (.int x1), .val (.int x2), .val (.int x3), .val (.int x4), .val (.ref ca), .val (.ref ra), .val (.int (x3 &&& (3 : Int32))), .val (.long ((Int32.ofNat k).toInt64 - (1 : Int64))), .second, .val (.long (x1.toInt64 + ((Int32.ofNat k).toInt64 - (1 : Int64)))), .second, .unset, .unset, .unset]) rfl (pc' := 82) rfl ?_
      refine Go.goto C at_82 (by decide) (pc' := 89) (by decide) ?_
      exact KB _ (own_near x1 k hk)
  · refine Go.iloadN C at_59 rfl (pc' := 60) rfl ?_
    refine Go.i2l C at_60 (pc' := 61) rfl ?_
    refine Go.lload C at_61 rfl (pc' := 63) rfl ?_
    refine Go.ladd C at_63 (pc' := 64) rfl ?_
    refine Go.lstore C at_64 (L' := #[.val (.int x0), .val (.int x1), .val (.int x2), .val (.int x3), .val (.int x4), .val (.ref ca), .val (.ref ra), .val (.int (x3 &&& (3 : Int32))), .val (.long ((Int32.ofNat k).toInt64 - (1 : Int64))), .second, .val (.long (x0.toInt64 + ((Int32.ofNat k).toInt64 - (1 : Int64)))), .second, .unset, .unset, .unset]) rfl (pc' := 66) rfl ?_
    refine Go.goto C at_66 (by decide) (pc' := 89) (by decide) ?_
    exact KB _ (own_near x0 k hk)
set_option maxRecDepth 65536 in
set_option maxHeartbeats 40000000 in
theorem comes_1 {Post : Tables → Env → Array Value → State → Outcome → State → Prop} (hpost : ∀ tb e args s v u, (limb_1_1.after args s (.returned v) u = true ∧ limb_1_2.after args s (.returned v) u = true ∧ True) → FrameEnd s (.returned v) u (Jvm.fieldLocs frame_1_writes args s ++ Jvm.arrayLocs frame_1_arrays args s ++ Jvm.staticLocs frame_1_statics s) 16 128 → Post tb e args s (.returned v) u) :
    ArmFor flags0 classFile x code maxLocals ret World_1 tables_1 room_1 Calls_1 rest_1 Pre_1 Post := by
  intro l hfl _ _ p e ha hc hk s m args below hf hA hF happ hP
  obtain ⟨hcalls, hrest, hpre⟩ := hP
  obtain ⟨-, -, -, hnamed, -, -, -, hat⟩ := (Spec.applies_iff hf).mp happ
  obtain ⟨hg, hn⟩ := and_e (Cond.before_iff.mp (show (Jvm.Cond.and given_1 narrow_1).before args s = true from hpre))
  obtain ⟨hcount, g0⟩ := and_e hg
  obtain ⟨k0, g1⟩ := and_e g0
  obtain ⟨k1, g2⟩ := and_e g1
  obtain ⟨k2, g3⟩ := and_e g2
  obtain ⟨k3, g4⟩ := and_e g3
  obtain ⟨w0, w1, w2, w3, w4, rfl⟩ : ∃ w0 w1 w2 w3 w4 : Value, args = #[w0, w1, w2, w3, w4] := by
    have hs : args.size = 5 := by simpa [Cond.value, given_1] using hcount
    obtain ⟨L⟩ := args
    match L, hs with
    | [w0, w1, w2, w3, w4], _ => exact ⟨w0, w1, w2, w3, w4, rfl⟩
  have hw := fun d (hd : d ∈ tables_1) => atoms_spec (ws := Jvm.Cond.code x code maxLocals ret :: tables_1) hat d (List.mem_cons_of_mem _ hd)
  obtain ⟨i0, e0⟩ := is_v k0
  obtain rfl : w0 = (.int i0) := Option.some.inj e0
  obtain ⟨i1, e1⟩ := is_v k1
  obtain rfl : w1 = (.int i1) := Option.some.inj e1
  obtain ⟨i2, e2⟩ := is_v k2
  obtain rfl : w2 = (.int i2) := Option.some.inj e2
  obtain ⟨i3, e3⟩ := is_v k3
  obtain rfl : w3 = (.int i3) := Option.some.inj e3
  obtain ⟨i4, e4⟩ := is_v g4
  obtain rfl : w4 = (.int i4) := Option.some.inj e4
  obtain ⟨hsets, hown0⟩ := atoms_of _ (rest_1_c_eq ▸ (show rest_1_c.before _ s = true from hrest))
  have ncs := not_v (Cond.before_iff.mp (hsets _ (List.mem_of_getElem? (i := 2) rfl)))
  obtain ⟨ics, ecs⟩ := is_v (Cond.before_iff.mp (hsets _ (List.mem_of_getElem? (i := 1) rfl)))
  have Scs : Sta s s.heap "java/lang/String" "COMPACT_STRINGS" "Z" (.int ics) := Sta.start ecs (Or.inl (hsets _ (List.mem_of_getElem? (i := 0) rfl)))
  have zcs : ¬ (ics = (0 : Int32)) := gotF (Cond.eq_ints ecs (Term.int_eval (0))) ncs
  obtain ⟨n, o, h1, h2, h3, v, L, rfl, ⟨rfl, N⟩, hq⟩ := rm_law l s _ hw i0 i1 i2 i3 i4 ics s.heap s.heap.size (Nat.le_refl _) Scs zcs (Old.start s) p e ha hc hk s m _ below hf ((Spec.applies_iff_loose hf).mp happ).1 ⟨rfl, State.Warmed39.refl s, rfl⟩ trivial
  refine ⟨n, _, h1, h2, h3, hpost _ _ _ _ _ _ ⟨Cond.after_iff.mpr rfl, Cond.after_iff.mpr (eq_i res_at (Term.int_eval (1)) rfl), trivial⟩ ⟨hq.1, hq.2.1, (hq.2.2.sift fun y hy => Or.inr (N y hy)).mono (by decide) (by decide)⟩⟩
theorem main_1_1 : Claimed_1_1 := comes_1 fun _ _ _ _ _ _ h hF => ⟨h.1, hF⟩
theorem main_1_2 : Claimed_1_2 := comes_1 fun _ _ _ _ _ _ h hF => ⟨h.2.1, hF⟩
end Jvm.Pilot.@@N@@
namespace Jvm.Pilot.@@N@@
open Jvm Jvm.ClassFile Sem Op Lib Jvm.Free Jvm.Stand Jvm.Pilot.@@N@@.Jvm.D
/-! MADE BY PROGRAM (witnessworld.py) out of the Statement's table words and the real class files: 22 classes; the members and pool entries that the words name. The judged class is class 1, her method 1. -/
namespace start1
open Jvm.ClassFile
def u (s : String) : CpInfo := .utf8 (stringToUtf16 s)
/-- a pool by its gaps: so many unusable entries, then the entry; so many at the end -/
def gap : Nat → List CpInfo → List CpInfo
  | 0, r => r
  | n + 1, r => .unusable :: gap n r
def poolList (es : List (Nat × CpInfo)) (last : Nat) : List CpInfo := es.foldr (fun e r => gap e.1 (e.2 :: r)) (gap last [])
def pool (es : List (Nat × CpInfo)) (last : Nat) : Array CpInfo := ⟨poolList es last⟩
def fileOf (pool : Array CpInfo) (this : Nat) (attrs : Array Attribute := #[]) (ms : Array MethodInfo := #[]) (fl : Nat := 33) (sup : Nat := 0) (ifs : Array Nat := #[]) (fds : Array FieldInfo := #[]) : ClassFile where
  minorVersion := 0
  majorVersion := 65
  constantPool := pool
  accessFlags := fl
  thisClass := this
  superClass := sup
  interfaces := ifs
  fields := fds
  methods := ms
  attributes := attrs
def plain (name : String) (sup : Option ClassId) : Class where
  name := name
  kind := .ordinary
  loader := none
  accessFlags := 33
  super := sup
  interfaces := #[]
  cf := none
  fields := #[]
  methods := #[]
  instanceTypes := #[]
  staticTypes := #[]
  resolved := #[]
  callSites := []
  init := .initialized
  statics := none
  mirror := none

def pool0 : Array CpInfo := pool [(5, u "<init>"), (0, u "()V"), (1, .class_ 10), (1, u "java/lang/Object")] 113

def k0c0 : Code := { maxStack := 0, maxLocals := 1, code := object_method_1_code, exceptionTable := #[], attributes := #[] }
def k0m0 : Method := { name := "<init>", desc := "()V", sig := { parameters := [], returnType := none }, accessFlags := 1, code := some k0c0 }
/-- java/lang/Object -/
def k0 : Class := { plain "java/lang/Object" none with
  accessFlags := 33
  interfaces := #[]
  cf := some (fileOf pool0 8 #[] #[{ accessFlags := 1, nameIndex := 5, descriptorIndex := 6, attributes := #[] }] 33 0 #[] #[])
  fields := #[]
  methods := #[k0m0]
  instanceTypes := #[]
  staticTypes := #[]
  resolved := Array.replicate 124 none
  statics := none }

def pool1 : Array CpInfo := pool [(2, .class_ 4), (1, u "java/lang/Object"), (0, u "<init>"), (0, u "()V"), (0, .class_ 8), (0, u "com/example/faultloom/faultloom/analysis/RangeFilter"), (0, .class_ 10), (0, u "java/lang/String"), (0, .methodref 9 12), (0, .nameAndType 5 13), (0, u "([C)V"), (0, .methodref 7 15), (0, .nameAndType 5 16), (0, u "(Ljava/lang/String;DD)V"), (0, .integer 2147483647), (0, .methodref 19 20), (0, .class_ 21), (0, .nameAndType 22 23), (0, u "java/lang/Math"), (0, u "max"), (0, u "(JJ)J"), (0, .methodref 19 25), (0, .nameAndType 26 23), (0, u "min"), (0, .methodref 7 28), (0, .nameAndType 29 30), (0, u "keeps"), (0, u "(D)Z"), (0, .class_ 32), (0, u "com/example/faultloom/faultloom/analysis/RangeFilterKeepsPinLaw"), (2, u "law"), (0, u "(IIIII)Z")] 5

def k1m0 : Method := { name := "<init>", desc := "()V", sig := { parameters := [], returnType := none }, accessFlags := 1, code := none }
def k1c1 : Code := { maxStack := 7, maxLocals := 15, code := code, exceptionTable := #[], attributes := #[] }
def k1m1 : Method := { name := "law", desc := "(IIIII)Z", sig := { parameters := [.int, .int, .int, .int, .int], returnType := some .boolean }, accessFlags := 9, code := some k1c1 }
/-- com/example/faultloom/faultloom/analysis/RangeFilterKeepsPinLaw -/
def k1 : Class := { plain "com/example/faultloom/faultloom/analysis/RangeFilterKeepsPinLaw" (some 0) with
  accessFlags := 49
  interfaces := #[]
  cf := some (fileOf pool1 31 #[] #[{ accessFlags := 1, nameIndex := 5, descriptorIndex := 6, attributes := #[] }, { accessFlags := 9, nameIndex := 35, descriptorIndex := 36, attributes := #[] }] 49 2 #[] #[])
  fields := #[]
  methods := #[k1m0, k1m1]
  instanceTypes := #[]
  staticTypes := #[]
  resolved := Array.replicate 42 none
  statics := none }

def pool2 : Array CpInfo := pool [(1, .methodref 2 3), (0, .class_ 4), (0, .nameAndType 5 6), (0, u "java/lang/Object"), (0, u "<init>"), (0, u "()V"), (0, .class_ 8), (0, u "java/lang/Record")] 13

def k2c0 : Code := { maxStack := 1, maxLocals := 1, code := jdk_30_method_1_code, exceptionTable := #[], attributes := #[] }
def k2m0 : Method := { name := "<init>", desc := "()V", sig := { parameters := [], returnType := none }, accessFlags := 4, code := some k2c0 }
/-- java/lang/Record -/
def k2 : Class := { plain "java/lang/Record" (some 0) with
  accessFlags := 1057
  interfaces := #[]
  cf := some (fileOf pool2 7 #[] #[{ accessFlags := 4, nameIndex := 5, descriptorIndex := 6, attributes := #[] }] 1057 2 #[] #[])
  fields := #[]
  methods := #[k2m0]
  instanceTypes := #[]
  staticTypes := #[]
  resolved := Array.replicate 22 none
  statics := none }

def pool3 : Array CpInfo := pool [(1, .methodref 2 3), (0, .class_ 4), (0, .nameAndType 5 6), (0, u "java/lang/Record"), (0, u "<init>"), (0, u "()V"), (0, .fieldref 8 9), (0, .class_ 10), (0, .nameAndType 11 12), (0, u "com/example/faultloom/faultloom/analysis/RangeFilter"), (0, u "column"), (0, u "Ljava/lang/String;"), (0, .fieldref 8 14), (0, .nameAndType 15 16), (0, u "low"), (0, u "D"), (0, .fieldref 8 18), (0, .nameAndType 19 16), (0, u "high"), (12, u "(Ljava/lang/String;DD)V"), (3, u "keeps"), (0, u "(D)Z")] 27

def k3c0 : Code := { maxStack := 3, maxLocals := 6, code := prog_25_method_1_code, exceptionTable := #[], attributes := #[] }
def k3m0 : Method := { name := "<init>", desc := "(Ljava/lang/String;DD)V", sig := { parameters := [(.object "java/lang/String"), .double, .double], returnType := none }, accessFlags := 1, code := some k3c0 }
def k3c1 : Code := { maxStack := 4, maxLocals := 3, code := prog_25_method_2_code, exceptionTable := #[], attributes := #[] }
def k3m1 : Method := { name := "keeps", desc := "(D)Z", sig := { parameters := [.double], returnType := some .boolean }, accessFlags := 1, code := some k3c1 }
/-- com/example/faultloom/faultloom/analysis/RangeFilter -/
def k3 : Class := { plain "com/example/faultloom/faultloom/analysis/RangeFilter" (some 2) with
  accessFlags := 49
  interfaces := #[]
  cf := some (fileOf pool3 8 #[] #[{ accessFlags := 1, nameIndex := 5, descriptorIndex := 32, attributes := #[] }, { accessFlags := 1, nameIndex := 36, descriptorIndex := 37, attributes := #[] }] 49 2 #[] #[{ accessFlags := 18, nameIndex := 11, descriptorIndex := 12, attributes := #[] }, { accessFlags := 18, nameIndex := 15, descriptorIndex := 16, attributes := #[] }, { accessFlags := 18, nameIndex := 19, descriptorIndex := 16, attributes := #[] }])
  fields := #[{ name := "column", type := (.object "java/lang/String"), accessFlags := 18, slot := 0, constantValue := 0 }, { name := "low", type := .double, accessFlags := 18, slot := 1, constantValue := 0 }, { name := "high", type := .double, accessFlags := 18, slot := 2, constantValue := 0 }]
  methods := #[k3m0, k3m1]
  instanceTypes := #[(.object "java/lang/String"), .double, .double]
  staticTypes := #[]
  resolved := Array.replicate 65 none
  statics := none }

def pool4 : Array CpInfo := pool [(1, .class_ 2), (0, u "java/io/Serializable"), (0, .class_ 4), (0, u "java/lang/Object")] 2

/-- java/io/Serializable -/
def k4 : Class := { plain "java/io/Serializable" (some 0) with
  accessFlags := 1537
  interfaces := #[]
  cf := some (fileOf pool4 1 #[] #[] 1537 3 #[] #[])
  fields := #[]
  methods := #[]
  instanceTypes := #[]
  staticTypes := #[]
  resolved := Array.replicate 7 none
  statics := none }

def pool5 : Array CpInfo := pool [(1, .class_ 2), (0, u "java/lang/Comparable"), (0, .class_ 4), (0, u "java/lang/Object")] 7

/-- java/lang/Comparable -/
def k5 : Class := { plain "java/lang/Comparable" (some 0) with
  accessFlags := 1537
  interfaces := #[]
  cf := some (fileOf pool5 1 #[] #[] 1537 3 #[] #[])
  fields := #[]
  methods := #[]
  instanceTypes := #[]
  staticTypes := #[]
  resolved := Array.replicate 12 none
  statics := none }

def pool6 : Array CpInfo := pool [(2, .class_ 4), (1, u "java/lang/CharSequence"), (42, .class_ 48), (0, u "java/lang/CharSequence$1CodePointIterator"), (10, .class_ 60), (0, u "java/lang/CharSequence$1CharIterator"), (5, .class_ 67), (0, u "java/lang/Object")] 63

/-- java/lang/CharSequence -/
def k6 : Class := { plain "java/lang/CharSequence" (some 0) with
  accessFlags := 1537
  interfaces := #[]
  cf := some (fileOf pool6 2 #[.nestMembers #[47, 59]] #[] 1537 66 #[] #[])
  fields := #[]
  methods := #[]
  instanceTypes := #[]
  staticTypes := #[]
  resolved := Array.replicate 131 none
  statics := none }

def pool7 : Array CpInfo := pool [(1, .class_ 2), (0, u "java/lang/constant/Constable"), (0, .class_ 4), (0, u "java/lang/Object")] 6

/-- java/lang/constant/Constable -/
def k7 : Class := { plain "java/lang/constant/Constable" (some 0) with
  accessFlags := 1537
  interfaces := #[]
  cf := some (fileOf pool7 1 #[] #[] 1537 3 #[] #[])
  fields := #[]
  methods := #[]
  instanceTypes := #[]
  staticTypes := #[]
  resolved := Array.replicate 11 none
  statics := none }

def pool8 : Array CpInfo := pool [(1, .class_ 2), (0, u "java/lang/constant/ConstantDesc"), (0, .class_ 4), (0, u "java/lang/Object")] 32

/-- java/lang/constant/ConstantDesc -/
def k8 : Class := { plain "java/lang/constant/ConstantDesc" (some 0) with
  accessFlags := 1537
  interfaces := #[]
  cf := some (fileOf pool8 1 #[] #[] 1537 3 #[] #[])
  fields := #[]
  methods := #[]
  instanceTypes := #[]
  staticTypes := #[]
  resolved := Array.replicate 37 none
  statics := none }

def pool9 : Array CpInfo := pool [(1, .methodref 2 3), (0, .class_ 4), (0, .nameAndType 5 6), (0, u "java/lang/Object"), (0, u "<init>"), (0, u "()V"), (2, .fieldref 10 11), (0, .class_ 12), (0, .nameAndType 13 14), (0, u "java/lang/String"), (0, u "value"), (0, u "[B"), (0, .fieldref 10 16), (0, .nameAndType 17 18), (0, u "coder"), (0, u "B"), (2, u "hash"), (0, u "I"), (2, u "hashIsZero"), (0, u "Z"), (0, .methodref 10 28), (0, .nameAndType 5 29), (0, u "([CIILjava/lang/Void;)V"), (8, .fieldref 10 39), (0, .nameAndType 40 26), (0, u "COMPACT_STRINGS"), (1, .class_ 44), (1, u "java/lang/StringUTF16"), (0, u "compress"), (1, .methodref 42 48), (0, .nameAndType 49 50), (0, u "coderFromArrayLen"), (0, u "([BI)B"), (126, .methodref 42 178), (0, .nameAndType 45 179), (0, u "([CII)[B"), (395, .class_ 576), (0, u "java/lang/CharSequence"), (22, u "CASE_INSENSITIVE_ORDER"), (0, u "Ljava/util/Comparator;"), (409, u "([C)V"), (90, u "serialPersistentFields"), (0, u "[Ljava/io/ObjectStreamField;"), (0, .class_ 1104), (0, u "java/lang/String$CaseInsensitiveComparator"), (1, .class_ 1107), (0, u "java/io/Serializable"), (0, .class_ 1109), (0, u "java/lang/Comparable"), (0, .class_ 1111), (0, u "java/lang/constant/Constable"), (0, .class_ 1113), (0, u "java/lang/constant/ConstantDesc"), (2, u "serialVersionUID"), (0, u "J"), (3, u "REPL"), (0, u "C"), (2, u "LATIN1"), (1, u "UTF16")] 323

def k9m0 : Method := { name := "<init>", desc := "()V", sig := { parameters := [], returnType := none }, accessFlags := 1, code := none }
def k9c1 : Code := { maxStack := 5, maxLocals := 2, code := jdk_42_method_3_code, exceptionTable := #[], attributes := #[] }
def k9m1 : Method := { name := "<init>", desc := "([C)V", sig := { parameters := [(.array .char)], returnType := none }, accessFlags := 1, code := some k9c1 }
def k9c2 : Code := { maxStack := 4, maxLocals := 6, code := jdk_42_method_149_code, exceptionTable := #[], attributes := #[] }
def k9m2 : Method := { name := "<init>", desc := "([CIILjava/lang/Void;)V", sig := { parameters := [(.array .char), .int, .int, (.object "java/lang/Void")], returnType := none }, accessFlags := 2, code := some k9c2 }
/-- java/lang/String -/
def k9 : Class := { plain "java/lang/String" (some 0) with
  accessFlags := 49
  interfaces := #[4, 5, 6, 7, 8]
  cf := some (fileOf pool9 10 #[.nestMembers #[1103]] #[{ accessFlags := 1, nameIndex := 5, descriptorIndex := 6, attributes := #[] }, { accessFlags := 1, nameIndex := 5, descriptorIndex := 1010, attributes := #[] }, { accessFlags := 2, nameIndex := 5, descriptorIndex := 29, attributes := #[] }] 49 2 #[1106, 1108, 575, 1110, 1112] #[{ accessFlags := 18, nameIndex := 13, descriptorIndex := 14, attributes := #[] }, { accessFlags := 18, nameIndex := 17, descriptorIndex := 18, attributes := #[] }, { accessFlags := 2, nameIndex := 21, descriptorIndex := 22, attributes := #[] }, { accessFlags := 2, nameIndex := 25, descriptorIndex := 26, attributes := #[] }, { accessFlags := 26, nameIndex := 1116, descriptorIndex := 1117, attributes := #[] }, { accessFlags := 24, nameIndex := 40, descriptorIndex := 26, attributes := #[] }, { accessFlags := 26, nameIndex := 1101, descriptorIndex := 1102, attributes := #[] }, { accessFlags := 26, nameIndex := 1121, descriptorIndex := 1122, attributes := #[] }, { accessFlags := 25, nameIndex := 599, descriptorIndex := 600, attributes := #[] }, { accessFlags := 24, nameIndex := 1125, descriptorIndex := 18, attributes := #[] }, { accessFlags := 24, nameIndex := 1127, descriptorIndex := 18, attributes := #[] }])
  fields := #[{ name := "value", type := (.array .byte), accessFlags := 18, slot := 0, constantValue := 0 }, { name := "coder", type := .byte, accessFlags := 18, slot := 1, constantValue := 0 }, { name := "hash", type := .int, accessFlags := 2, slot := 2, constantValue := 0 }, { name := "hashIsZero", type := .boolean, accessFlags := 2, slot := 3, constantValue := 0 }, { name := "serialVersionUID", type := .long, accessFlags := 26, slot := 0, constantValue := 0 }, { name := "COMPACT_STRINGS", type := .boolean, accessFlags := 24, slot := 1, constantValue := 0 }, { name := "serialPersistentFields", type := (.array (.object "java/io/ObjectStreamField")), accessFlags := 26, slot := 2, constantValue := 0 }, { name := "REPL", type := .char, accessFlags := 26, slot := 3, constantValue := 0 }, { name := "CASE_INSENSITIVE_ORDER", type := (.object "java/util/Comparator"), accessFlags := 25, slot := 4, constantValue := 0 }, { name := "LATIN1", type := .byte, accessFlags := 24, slot := 5, constantValue := 0 }, { name := "UTF16", type := .byte, accessFlags := 24, slot := 6, constantValue := 0 }]
  methods := #[k9m0, k9m1, k9m2]
  instanceTypes := #[(.array .byte), .byte, .int, .boolean]
  staticTypes := #[.long, .boolean, (.array (.object "java/io/ObjectStreamField")), .char, (.object "java/util/Comparator"), .byte, .byte]
  resolved := Array.replicate 1451 none
  statics := some 0 }

def pool10 : Array CpInfo := pool [(6, .class_ 8), (1, u "java/lang/Object"), (0, u "<init>"), (0, u "()V"), (1, .class_ 14), (1, u "java/lang/StringUTF16"), (31, u "$assertionsDisabled"), (0, u "Z"), (13, u "HI_BYTE_SHIFT"), (0, u "I"), (2, u "LO_BYTE_SHIFT"), (49, .methodref 12 116), (0, .nameAndType 117 118), (0, u "compress"), (0, u "([CI[BII)I"), (3, u "([CII)[B"), (138, u "coderFromArrayLen"), (0, u "([BI)B"), (106, .class_ 371), (1, u "java/lang/StringUTF16$LinesSpliterator"), (58, u "MAX_LENGTH"), (196, .class_ 628), (0, u "java/lang/StringUTF16$CodePointsSpliterator"), (0, .class_ 630), (0, u "java/lang/StringUTF16$CharsSpliterator")] 4

def k10m0 : Method := { name := "<init>", desc := "()V", sig := { parameters := [], returnType := none }, accessFlags := 0, code := none }
def k10c1 : Code := { maxStack := 2, maxLocals := 2, code := jdk_52_method_15_code, exceptionTable := #[], attributes := #[] }
def k10m1 : Method := { name := "coderFromArrayLen", desc := "([BI)B", sig := { parameters := [(.array .byte), .int], returnType := some .byte }, accessFlags := 8, code := some k10c1 }
def k10c2 : Code := { maxStack := 5, maxLocals := 6, code := jdk_52_method_16_code, exceptionTable := #[], attributes := #[] }
def k10m2 : Method := { name := "compress", desc := "([CII)[B", sig := { parameters := [(.array .char), .int, .int], returnType := some (.array .byte) }, accessFlags := 9, code := some k10c2 }
def k10c3 : Code := { maxStack := 3, maxLocals := 7, code := jdk_52_method_21_code, exceptionTable := #[], attributes := #[] }
def k10m3 : Method := { name := "compress", desc := "([CI[BII)I", sig := { parameters := [(.array .char), .int, (.array .byte), .int, .int], returnType := some .int }, accessFlags := 9, code := some k10c3 }
/-- java/lang/StringUTF16 -/
def k10 : Class := { plain "java/lang/StringUTF16" (some 0) with
  accessFlags := 48
  interfaces := #[]
  cf := some (fileOf pool10 12 #[.nestMembers #[627, 629, 369]] #[{ accessFlags := 0, nameIndex := 9, descriptorIndex := 10, attributes := #[] }, { accessFlags := 8, nameIndex := 261, descriptorIndex := 262, attributes := #[] }, { accessFlags := 9, nameIndex := 117, descriptorIndex := 122, attributes := #[] }, { accessFlags := 9, nameIndex := 117, descriptorIndex := 118, attributes := #[] }] 48 6 #[] #[{ accessFlags := 26, nameIndex := 61, descriptorIndex := 62, attributes := #[] }, { accessFlags := 26, nameIndex := 65, descriptorIndex := 62, attributes := #[] }, { accessFlags := 24, nameIndex := 430, descriptorIndex := 62, attributes := #[] }, { accessFlags := 4120, nameIndex := 46, descriptorIndex := 47, attributes := #[] }])
  fields := #[{ name := "HI_BYTE_SHIFT", type := .int, accessFlags := 26, slot := 0, constantValue := 0 }, { name := "LO_BYTE_SHIFT", type := .int, accessFlags := 26, slot := 1, constantValue := 0 }, { name := "MAX_LENGTH", type := .int, accessFlags := 24, slot := 2, constantValue := 0 }, { name := "$assertionsDisabled", type := .boolean, accessFlags := 4120, slot := 3, constantValue := 0 }]
  methods := #[k10m0, k10m1, k10m2, k10m3]
  instanceTypes := #[]
  staticTypes := #[.int, .int, .int, .boolean]
  resolved := Array.replicate 635 none
  statics := none }

def pool11 : Array CpInfo := pool [(1, .class_ 2), (0, u "java/lang/Math"), (1, .class_ 6), (1, u "java/lang/Object"), (0, u "<init>"), (0, u "()V"), (89, .class_ 100), (1, u "java/lang/Math$RandomNumberGeneratorHolder"), (20, u "(JJ)J"), (50, u "negativeZeroFloatBits"), (0, u "J"), (2, u "negativeZeroDoubleBits"), (21, u "max"), (2, u "min"), (43, u "$assertionsDisabled"), (0, u "Z"), (91, u "twoToTheDoubleScaleDown"), (0, u "D"), (4, u "twoToTheDoubleScaleUp"), (9, u "E"), (3, u "PI"), (2, u "TAU"), (2, u "DEGREES_TO_RADIANS"), (0, u "RADIANS_TO_DEGREES")] 94

def k11m0 : Method := { name := "<init>", desc := "()V", sig := { parameters := [], returnType := none }, accessFlags := 2, code := none }
def k11c1 : Code := { maxStack := 4, maxLocals := 4, code := jdk_29_method_66_code, exceptionTable := #[], attributes := #[] }
def k11m1 : Method := { name := "max", desc := "(JJ)J", sig := { parameters := [.long, .long], returnType := some .long }, accessFlags := 9, code := some k11c1 }
def k11c2 : Code := { maxStack := 4, maxLocals := 4, code := jdk_29_method_70_code, exceptionTable := #[], attributes := #[] }
def k11m2 : Method := { name := "min", desc := "(JJ)J", sig := { parameters := [.long, .long], returnType := some .long }, accessFlags := 9, code := some k11c2 }
/-- java/lang/Math -/
def k11 : Class := { plain "java/lang/Math" (some 0) with
  accessFlags := 49
  interfaces := #[]
  cf := some (fileOf pool11 1 #[.nestMembers #[98]] #[{ accessFlags := 2, nameIndex := 7, descriptorIndex := 8, attributes := #[] }, { accessFlags := 9, nameIndex := 198, descriptorIndex := 121, attributes := #[] }, { accessFlags := 9, nameIndex := 201, descriptorIndex := 121, attributes := #[] }] 49 4 #[] #[{ accessFlags := 25, nameIndex := 354, descriptorIndex := 339, attributes := #[] }, { accessFlags := 25, nameIndex := 358, descriptorIndex := 339, attributes := #[] }, { accessFlags := 25, nameIndex := 361, descriptorIndex := 339, attributes := #[] }, { accessFlags := 26, nameIndex := 364, descriptorIndex := 339, attributes := #[] }, { accessFlags := 26, nameIndex := 365, descriptorIndex := 339, attributes := #[] }, { accessFlags := 26, nameIndex := 172, descriptorIndex := 173, attributes := #[] }, { accessFlags := 26, nameIndex := 176, descriptorIndex := 173, attributes := #[] }, { accessFlags := 8, nameIndex := 344, descriptorIndex := 339, attributes := #[] }, { accessFlags := 8, nameIndex := 338, descriptorIndex := 339, attributes := #[] }, { accessFlags := 4120, nameIndex := 245, descriptorIndex := 246, attributes := #[] }])
  fields := #[{ name := "E", type := .double, accessFlags := 25, slot := 0, constantValue := 0 }, { name := "PI", type := .double, accessFlags := 25, slot := 1, constantValue := 0 }, { name := "TAU", type := .double, accessFlags := 25, slot := 2, constantValue := 0 }, { name := "DEGREES_TO_RADIANS", type := .double, accessFlags := 26, slot := 3, constantValue := 0 }, { name := "RADIANS_TO_DEGREES", type := .double, accessFlags := 26, slot := 4, constantValue := 0 }, { name := "negativeZeroFloatBits", type := .long, accessFlags := 26, slot := 5, constantValue := 0 }, { name := "negativeZeroDoubleBits", type := .long, accessFlags := 26, slot := 6, constantValue := 0 }, { name := "twoToTheDoubleScaleUp", type := .double, accessFlags := 8, slot := 7, constantValue := 0 }, { name := "twoToTheDoubleScaleDown", type := .double, accessFlags := 8, slot := 8, constantValue := 0 }, { name := "$assertionsDisabled", type := .boolean, accessFlags := 4120, slot := 9, constantValue := 0 }]
  methods := #[k11m0, k11m1, k11m2]
  instanceTypes := #[]
  staticTypes := #[.double, .double, .double, .double, .double, .long, .long, .double, .double, .boolean]
  resolved := Array.replicate 460 none
  statics := none }

def pool12 : Array CpInfo := pool [(4, .class_ 6), (1, u "java/lang/Object"), (0, u "<init>"), (0, u "()V"), (5, .class_ 16), (1, u "java/lang/StringLatin1"), (104, u "$assertionsDisabled"), (0, u "Z"), (98, .class_ 223), (1, u "java/lang/StringLatin1$LinesSpliterator"), (166, .class_ 391), (0, u "java/lang/StringLatin1$CharsSpliterator")] 3

def k12m0 : Method := { name := "<init>", desc := "()V", sig := { parameters := [], returnType := none }, accessFlags := 0, code := none }
/-- java/lang/StringLatin1 -/
def k12 : Class := { plain "java/lang/StringLatin1" (some 0) with
  accessFlags := 48
  interfaces := #[]
  cf := some (fileOf pool12 14 #[.nestMembers #[390, 221]] #[{ accessFlags := 0, nameIndex := 7, descriptorIndex := 8, attributes := #[] }] 48 4 #[] #[{ accessFlags := 4120, nameIndex := 121, descriptorIndex := 122, attributes := #[] }])
  fields := #[{ name := "$assertionsDisabled", type := .boolean, accessFlags := 4120, slot := 0, constantValue := 0 }]
  methods := #[k12m0]
  instanceTypes := #[]
  staticTypes := #[.boolean]
  resolved := Array.replicate 395 none
  statics := none }

def pool13 : Array CpInfo := pool [(2, .class_ 4), (1, u "java/lang/Object"), (0, u "<init>"), (0, u "()V"), (17, .class_ 26), (1, u "jdk/internal/util/Preconditions"), (28, .class_ 56), (0, u "jdk/internal/util/Preconditions$4"), (57, .class_ 115), (0, u "jdk/internal/util/Preconditions$1"), (7, u "SIOOBE_FORMATTER"), (0, u "Ljava/util/function/BiFunction;"), (0, .class_ 126), (0, u "jdk/internal/util/Preconditions$2"), (3, u "AIOOBE_FORMATTER"), (0, .class_ 132), (0, u "jdk/internal/util/Preconditions$3"), (3, u "IOOBE_FORMATTER")] 57

def k13m0 : Method := { name := "<init>", desc := "()V", sig := { parameters := [], returnType := none }, accessFlags := 1, code := none }
/-- jdk/internal/util/Preconditions -/
def k13 : Class := { plain "jdk/internal/util/Preconditions" (some 0) with
  accessFlags := 33
  interfaces := #[]
  cf := some (fileOf pool13 24 #[.nestMembers #[55, 131, 125, 114]] #[{ accessFlags := 1, nameIndex := 5, descriptorIndex := 6, attributes := #[] }] 33 2 #[] #[{ accessFlags := 25, nameIndex := 123, descriptorIndex := 124, attributes := #[] }, { accessFlags := 25, nameIndex := 130, descriptorIndex := 124, attributes := #[] }, { accessFlags := 25, nameIndex := 136, descriptorIndex := 124, attributes := #[] }])
  fields := #[{ name := "SIOOBE_FORMATTER", type := (.object "java/util/function/BiFunction"), accessFlags := 25, slot := 0, constantValue := 0 }, { name := "AIOOBE_FORMATTER", type := (.object "java/util/function/BiFunction"), accessFlags := 25, slot := 1, constantValue := 0 }, { name := "IOOBE_FORMATTER", type := (.object "java/util/function/BiFunction"), accessFlags := 25, slot := 2, constantValue := 0 }]
  methods := #[k13m0]
  instanceTypes := #[]
  staticTypes := #[(.object "java/util/function/BiFunction"), (.object "java/util/function/BiFunction"), (.object "java/util/function/BiFunction")]
  resolved := Array.replicate 194 none
  statics := some 1 }

def pool14 : Array CpInfo := pool [(9, u "<init>"), (6, .class_ 18), (1, u "java/lang/Object"), (0, u "()V"), (1, .class_ 23), (1, u "jdk/internal/util/ArraysSupport"), (0, u "LOG2_ARRAY_LONG_INDEX_SCALE"), (0, u "I"), (2, u "U"), (0, u "Ljdk/internal/misc/Unsafe;"), (8, u "BIG_ENDIAN"), (0, u "Z"), (8, u "LOG2_BYTE_BIT_SIZE"), (4, u "LOG2_ARRAY_INT_INDEX_SCALE"), (54, u "JLA"), (0, u "Ljdk/internal/access/JavaLangAccess;"), (11, u "LOG2_ARRAY_BOOLEAN_INDEX_SCALE"), (9, u "LOG2_ARRAY_BYTE_INDEX_SCALE"), (5, u "LOG2_ARRAY_CHAR_INDEX_SCALE"), (5, u "LOG2_ARRAY_SHORT_INDEX_SCALE"), (18, u "LOG2_ARRAY_FLOAT_INDEX_SCALE"), (24, u "LOG2_ARRAY_DOUBLE_INDEX_SCALE"), (89, u "T_BOOLEAN"), (2, u "T_CHAR"), (1, u "T_FLOAT"), (1, u "T_DOUBLE"), (1, u "T_BYTE"), (1, u "T_SHORT"), (1, u "T_INT"), (1, u "T_LONG"), (1, u "SOFT_MAX_ARRAY_LENGTH")] 83

def k14m0 : Method := { name := "<init>", desc := "()V", sig := { parameters := [], returnType := none }, accessFlags := 2, code := none }
/-- jdk/internal/util/ArraysSupport -/
def k14 : Class := { plain "jdk/internal/util/ArraysSupport" (some 0) with
  accessFlags := 33
  interfaces := #[]
  cf := some (fileOf pool14 21 #[] #[{ accessFlags := 2, nameIndex := 9, descriptorIndex := 19, attributes := #[] }] 33 16 #[] #[{ accessFlags := 24, nameIndex := 28, descriptorIndex := 29, attributes := #[] }, { accessFlags := 26, nameIndex := 38, descriptorIndex := 39, attributes := #[] }, { accessFlags := 25, nameIndex := 121, descriptorIndex := 25, attributes := #[] }, { accessFlags := 25, nameIndex := 131, descriptorIndex := 25, attributes := #[] }, { accessFlags := 25, nameIndex := 137, descriptorIndex := 25, attributes := #[] }, { accessFlags := 25, nameIndex := 143, descriptorIndex := 25, attributes := #[] }, { accessFlags := 25, nameIndex := 53, descriptorIndex := 25, attributes := #[] }, { accessFlags := 25, nameIndex := 24, descriptorIndex := 25, attributes := #[] }, { accessFlags := 25, nameIndex := 162, descriptorIndex := 25, attributes := #[] }, { accessFlags := 25, nameIndex := 187, descriptorIndex := 25, attributes := #[] }, { accessFlags := 26, nameIndex := 48, descriptorIndex := 25, attributes := #[] }, { accessFlags := 25, nameIndex := 277, descriptorIndex := 25, attributes := #[] }, { accessFlags := 25, nameIndex := 280, descriptorIndex := 25, attributes := #[] }, { accessFlags := 25, nameIndex := 282, descriptorIndex := 25, attributes := #[] }, { accessFlags := 25, nameIndex := 284, descriptorIndex := 25, attributes := #[] }, { accessFlags := 25, nameIndex := 286, descriptorIndex := 25, attributes := #[] }, { accessFlags := 25, nameIndex := 288, descriptorIndex := 25, attributes := #[] }, { accessFlags := 25, nameIndex := 290, descriptorIndex := 25, attributes := #[] }, { accessFlags := 25, nameIndex := 292, descriptorIndex := 25, attributes := #[] }, { accessFlags := 26, nameIndex := 108, descriptorIndex := 109, attributes := #[] }, { accessFlags := 25, nameIndex := 294, descriptorIndex := 25, attributes := #[] }])
  fields := #[{ name := "U", type := (.object "jdk/internal/misc/Unsafe"), accessFlags := 24, slot := 0, constantValue := 0 }, { name := "BIG_ENDIAN", type := .boolean, accessFlags := 26, slot := 1, constantValue := 0 }, { name := "LOG2_ARRAY_BOOLEAN_INDEX_SCALE", type := .int, accessFlags := 25, slot := 2, constantValue := 0 }, { name := "LOG2_ARRAY_BYTE_INDEX_SCALE", type := .int, accessFlags := 25, slot := 3, constantValue := 0 }, { name := "LOG2_ARRAY_CHAR_INDEX_SCALE", type := .int, accessFlags := 25, slot := 4, constantValue := 0 }, { name := "LOG2_ARRAY_SHORT_INDEX_SCALE", type := .int, accessFlags := 25, slot := 5, constantValue := 0 }, { name := "LOG2_ARRAY_INT_INDEX_SCALE", type := .int, accessFlags := 25, slot := 6, constantValue := 0 }, { name := "LOG2_ARRAY_LONG_INDEX_SCALE", type := .int, accessFlags := 25, slot := 7, constantValue := 0 }, { name := "LOG2_ARRAY_FLOAT_INDEX_SCALE", type := .int, accessFlags := 25, slot := 8, constantValue := 0 }, { name := "LOG2_ARRAY_DOUBLE_INDEX_SCALE", type := .int, accessFlags := 25, slot := 9, constantValue := 0 }, { name := "LOG2_BYTE_BIT_SIZE", type := .int, accessFlags := 26, slot := 10, constantValue := 0 }, { name := "T_BOOLEAN", type := .int, accessFlags := 25, slot := 11, constantValue := 0 }, { name := "T_CHAR", type := .int, accessFlags := 25, slot := 12, constantValue := 0 }, { name := "T_FLOAT", type := .int, accessFlags := 25, slot := 13, constantValue := 0 }, { name := "T_DOUBLE", type := .int, accessFlags := 25, slot := 14, constantValue := 0 }, { name := "T_BYTE", type := .int, accessFlags := 25, slot := 15, constantValue := 0 }, { name := "T_SHORT", type := .int, accessFlags := 25, slot := 16, constantValue := 0 }, { name := "T_INT", type := .int, accessFlags := 25, slot := 17, constantValue := 0 }, { name := "T_LONG", type := .int, accessFlags := 25, slot := 18, constantValue := 0 }, { name := "JLA", type := (.object "jdk/internal/access/JavaLangAccess"), accessFlags := 26, slot := 19, constantValue := 0 }, { name := "SOFT_MAX_ARRAY_LENGTH", type := .int, accessFlags := 25, slot := 20, constantValue := 0 }]
  methods := #[k14m0]
  instanceTypes := #[]
  staticTypes := #[(.object "jdk/internal/misc/Unsafe"), .boolean, .int, .int, .int, .int, .int, .int, .int, .int, .int, .int, .int, .int, .int, .int, .int, .int, .int, (.object "jdk/internal/access/JavaLangAccess"), .int]
  resolved := Array.replicate 378 none
  statics := none }

def pool15 : Array CpInfo := pool [(1, u "java/lang/Cloneable"), (0, .class_ 1), (0, u "java/lang/Object"), (0, .class_ 3)] 3

/-- java/lang/Cloneable -/
def k15 : Class := { plain "java/lang/Cloneable" (some 0) with
  accessFlags := 1537
  interfaces := #[]
  cf := some (fileOf pool15 2 #[] #[] 1537 4 #[] #[])
  fields := #[]
  methods := #[]
  instanceTypes := #[]
  staticTypes := #[]
  resolved := Array.replicate 8 none
  statics := none }

/-- the primitive byte -/
def k16 : Class := { plain "byte" none with kind := .primitive 'B', accessFlags := 0x411 }
/-- [B -/
def k17 : Class := { plain "[B" (some 0) with kind := .array 16 .byte, interfaces := #[15, 4], accessFlags := 1041 }

/-- the primitive char -/
def k18 : Class := { plain "char" none with kind := .primitive 'C', accessFlags := 0x411 }
/-- [C -/
def k19 : Class := { plain "[C" (some 0) with kind := .array 18 .char, interfaces := #[15, 4], accessFlags := 1041 }

/-- the primitive int -/
def k20 : Class := { plain "int" none with kind := .primitive 'I', accessFlags := 0x411 }
/-- [I -/
def k21 : Class := { plain "[I" (some 0) with kind := .array 20 .int, interfaces := #[15, 4], accessFlags := 1041 }

def heap : Heap := #[{ cls := 9, slots := #[.long 0, .int 1, .null, .int 0, .null, .int 0, .int 0], vm := .statics 9 },
  { cls := 13, slots := #[.null, .null, .null], vm := .statics 13 }]
def classes : Array Class := #[k0, k1, k2, k3, k4, k5, k6, k7, k8, k9, k10, k11, k12, k13, k14, k15, k16, k17, k18, k19, k20, k21]
def interned : List (Array UInt16 × Addr) := []
def slotsUsed : Nat := 10
def theMethod : MethodId := ⟨1, 1⟩
def args0 : Array Value := #[.int 5, .int 6, .int 7, .int 8, .int 9]
def aboutOver (below : List Frame) : State where
  vm := { classes := classes, interned := interned.toArray }
  heap := heap
  slotsUsed := slotsUsed
  threads := #[{ frames := .invoking theMethod args0 :: below }]
def below0 : List Frame := [.native { method := ⟨0, 0⟩, args := #[] }]
def about1 : State := aboutOver below0
def p0 : Program := .bare "" "" ""
def e0 : Env := launch0.env 0 0 0
theorem w_frames : about1.frames = Frame.invoking theMethod args0 :: below0 := rfl
set_option maxRecDepth 65536 in
theorem w_args : argsFit about1.vm theMethod args0 = true := by decide +kernel
set_option maxRecDepth 65536 in
theorem w_heap : heapFits about1 = true := by decide +kernel
set_option maxRecDepth 65536 in
theorem w_runnable : about1.curStatus? = some .runnable := by decide +kernel
set_option maxRecDepth 65536 in
theorem w_alone : about1.alone = true := by decide +kernel
set_option maxRecDepth 65536 in
theorem w_named : about1.methodNamed? x = some theMethod := by decide +kernel
set_option maxRecDepth 65536 in
theorem w_hears : about1.hears theMethod below0 = true := by decide +kernel
set_option maxRecDepth 65536 in
theorem w_ripe : about1.ripe theMethod args0 below0 = true := by decide +kernel
theorem w_running : about1.status = .running := rfl
set_option maxRecDepth 65536 in
theorem w_room : about1.hasRoom e0.platform room_1 = true :=
  launch0.hasRoom_least _ room_1 (by decide +kernel) (by decide +kernel) (by decide +kernel) (by decide +kernel) (by decide +kernel) (by decide +kernel)
theorem allAtoms_all (ts : List Jvm.Cond) (a : Array Jvm.Value) (st : Jvm.State) : (allAtoms ts).before a st = ts.all (fun c => c.before a st) := by
  induction ts with
  | nil => rfl
  | cons c t ih =>
    show (Jvm.Cond.and c (allAtoms t)).before a st = _
    rw [Jvm.Cond.before_and, ih, List.all_cons]
def words1 : List Jvm.Cond := Jvm.Cond.code x code maxLocals ret :: tables_1
/-- a 'code' word, met by the world's own term for the bytes: nothing is compared byte by byte -/
theorem code_word {y : MethodName} {bytes : ByteArray} {mx : Nat} {rt : Option FieldType} {a : Array Value} {s : State} {m : MethodId} {meth : Method} {c : Code} (h1 : s.methodNamed? y = some m) (h2 : s.vm.method? m = some meth) (h3 : meth.code = some c) (h4 : c.code = bytes)
    (h5 : (c.maxLocals == mx && c.exceptionTable.isEmpty && decide (c.maxStack ≤ mostOperands) && decide (meth.sig.returnType = rt) && !meth.locks && decide (parseMethodDescriptor y.desc = some meth.sig)) = true) : (Jvm.Cond.code y bytes mx rt).before a s = true := by
  simp only [Bool.and_eq_true, beq_iff_eq, Bool.not_eq_true', decide_eq_true_eq] at h5
  obtain ⟨⟨⟨⟨⟨g1, g2⟩, g3⟩, g4⟩, g5⟩, g6⟩ := h5
  simp [Cond.before, Cond.holds, Cond.value, h1, h2, h3, h4, g1, g2, g3, g4, g5, g6]
def isCode : Jvm.Cond → Bool
  | .code _ _ _ _ => true
  | _ => false
theorem all_split {L : List Jvm.Cond} {P : Jvm.Cond → Bool} (h1 : L.all (fun c => isCode c || P c) = true) (h2 : ∀ c ∈ L.filter isCode, P c = true) : L.all P = true := by
  refine List.all_eq_true.mpr fun c hc => ?_
  have h := List.all_eq_true.mp h1 c hc
  rcases Bool.eq_false_or_eq_true (isCode c) with hi | hi
  · exact h2 c (List.mem_filter.mpr ⟨hc, hi⟩)
  · simpa [hi] using h
set_option maxRecDepth 65536 in
theorem w_c0 : (Jvm.Cond.code x code maxLocals ret).before args0 about1 = true := code_word (m := ⟨1, 1⟩) (meth := k1m1) (c := k1c1) (by decide +kernel) rfl rfl rfl (by decide +kernel)
set_option maxRecDepth 65536 in
theorem w_c1 : (Jvm.Cond.code ({ cls := "java/lang/String", name := "<init>", desc := "([C)V" } : Jvm.MethodName) jdk_42_method_3_code (2 : Nat) (Option.none : Option Jvm.ClassFile.FieldType)).before args0 about1 = true := code_word (m := ⟨9, 1⟩) (meth := k9m1) (c := k9c1) (by decide +kernel) rfl rfl rfl (by decide +kernel)
set_option maxRecDepth 65536 in
theorem w_c2 : (Jvm.Cond.code ({ cls := "java/lang/String", name := "<init>", desc := "([CIILjava/lang/Void;)V" } : Jvm.MethodName) jdk_42_method_149_code (6 : Nat) (Option.none : Option Jvm.ClassFile.FieldType)).before args0 about1 = true := code_word (m := ⟨9, 2⟩) (meth := k9m2) (c := k9c2) (by decide +kernel) rfl rfl rfl (by decide +kernel)
set_option maxRecDepth 65536 in
theorem w_c3 : (Jvm.Cond.code ({ cls := "java/lang/Object", name := "<init>", desc := "()V" } : Jvm.MethodName) object_method_1_code (1 : Nat) (Option.none : Option Jvm.ClassFile.FieldType)).before args0 about1 = true := code_word (m := ⟨0, 0⟩) (meth := k0m0) (c := k0c0) (by decide +kernel) rfl rfl rfl (by decide +kernel)
set_option maxRecDepth 65536 in
theorem w_c4 : (Jvm.Cond.code ({ cls := "java/lang/StringUTF16", name := "compress", desc := "([CII)[B" } : Jvm.MethodName) jdk_52_method_16_code (6 : Nat) (Option.some (Jvm.ClassFile.FieldType.array Jvm.ClassFile.FieldType.byte))).before args0 about1 = true := code_word (m := ⟨10, 2⟩) (meth := k10m2) (c := k10c2) (by decide +kernel) rfl rfl rfl (by decide +kernel)
set_option maxRecDepth 65536 in
theorem w_c5 : (Jvm.Cond.code ({ cls := "java/lang/StringUTF16", name := "compress", desc := "([CI[BII)I" } : Jvm.MethodName) jdk_52_method_21_code (7 : Nat) (Option.some Jvm.ClassFile.FieldType.int)).before args0 about1 = true := code_word (m := ⟨10, 3⟩) (meth := k10m3) (c := k10c3) (by decide +kernel) rfl rfl rfl (by decide +kernel)
set_option maxRecDepth 65536 in
theorem w_c6 : (Jvm.Cond.code ({ cls := "java/lang/StringUTF16", name := "coderFromArrayLen", desc := "([BI)B" } : Jvm.MethodName) jdk_52_method_15_code (2 : Nat) (Option.some Jvm.ClassFile.FieldType.byte)).before args0 about1 = true := code_word (m := ⟨10, 1⟩) (meth := k10m1) (c := k10c1) (by decide +kernel) rfl rfl rfl (by decide +kernel)
set_option maxRecDepth 65536 in
theorem w_c7 : (Jvm.Cond.code ({ cls := "com/example/faultloom/faultloom/analysis/RangeFilter", name := "<init>", desc := "(Ljava/lang/String;DD)V" } : Jvm.MethodName) prog_25_method_1_code (6 : Nat) (Option.none : Option Jvm.ClassFile.FieldType)).before args0 about1 = true := code_word (m := ⟨3, 0⟩) (meth := k3m0) (c := k3c0) (by decide +kernel) rfl rfl rfl (by decide +kernel)
set_option maxRecDepth 65536 in
theorem w_c8 : (Jvm.Cond.code ({ cls := "java/lang/Record", name := "<init>", desc := "()V" } : Jvm.MethodName) jdk_30_method_1_code (1 : Nat) (Option.none : Option Jvm.ClassFile.FieldType)).before args0 about1 = true := code_word (m := ⟨2, 0⟩) (meth := k2m0) (c := k2c0) (by decide +kernel) rfl rfl rfl (by decide +kernel)
set_option maxRecDepth 65536 in
theorem w_c9 : (Jvm.Cond.code ({ cls := "java/lang/Math", name := "max", desc := "(JJ)J" } : Jvm.MethodName) jdk_29_method_66_code (4 : Nat) (Option.some Jvm.ClassFile.FieldType.long)).before args0 about1 = true := code_word (m := ⟨11, 1⟩) (meth := k11m1) (c := k11c1) (by decide +kernel) rfl rfl rfl (by decide +kernel)
set_option maxRecDepth 65536 in
theorem w_c10 : (Jvm.Cond.code ({ cls := "java/lang/Math", name := "min", desc := "(JJ)J" } : Jvm.MethodName) jdk_29_method_70_code (4 : Nat) (Option.some Jvm.ClassFile.FieldType.long)).before args0 about1 = true := code_word (m := ⟨11, 2⟩) (meth := k11m2) (c := k11c2) (by decide +kernel) rfl rfl rfl (by decide +kernel)
set_option maxRecDepth 65536 in
theorem w_c11 : (Jvm.Cond.code ({ cls := "com/example/faultloom/faultloom/analysis/RangeFilter", name := "keeps", desc := "(D)Z" } : Jvm.MethodName) prog_25_method_2_code (3 : Nat) (Option.some Jvm.ClassFile.FieldType.boolean)).before args0 about1 = true := code_word (m := ⟨3, 1⟩) (meth := k3m1) (c := k3c1) (by decide +kernel) rfl rfl rfl (by decide +kernel)
def codes1 : List Jvm.Cond := [Jvm.Cond.code x code maxLocals ret, Jvm.Cond.code ({ cls := "java/lang/String", name := "<init>", desc := "([C)V" } : Jvm.MethodName) jdk_42_method_3_code (2 : Nat) (Option.none : Option Jvm.ClassFile.FieldType), Jvm.Cond.code ({ cls := "java/lang/String", name := "<init>", desc := "([CIILjava/lang/Void;)V" } : Jvm.MethodName) jdk_42_method_149_code (6 : Nat) (Option.none : Option Jvm.ClassFile.FieldType), Jvm.Cond.code ({ cls := "java/lang/Object", name := "<init>", desc := "()V" } : Jvm.MethodName) object_method_1_code (1 : Nat) (Option.none : Option Jvm.ClassFile.FieldType), Jvm.Cond.code ({ cls := "java/lang/StringUTF16", name := "compress", desc := "([CII)[B" } : Jvm.MethodName) jdk_52_method_16_code (6 : Nat) (Option.some (Jvm.ClassFile.FieldType.array Jvm.ClassFile.FieldType.byte)), Jvm.Cond.code ({ cls := "java/lang/StringUTF16", name := "compress", desc := "([CI[BII)I" } : Jvm.MethodName) jdk_52_method_21_code (7 : Nat) (Option.some Jvm.ClassFile.FieldType.int), Jvm.Cond.code ({ cls := "java/lang/StringUTF16", name := "coderFromArrayLen", desc := "([BI)B" } : Jvm.MethodName) jdk_52_method_15_code (2 : Nat) (Option.some Jvm.ClassFile.FieldType.byte), Jvm.Cond.code ({ cls := "com/example/faultloom/faultloom/analysis/RangeFilter", name := "<init>", desc := "(Ljava/lang/String;DD)V" } : Jvm.MethodName) prog_25_method_1_code (6 : Nat) (Option.none : Option Jvm.ClassFile.FieldType), Jvm.Cond.code ({ cls := "java/lang/Record", name := "<init>", desc := "()V" } : Jvm.MethodName) jdk_30_method_1_code (1 : Nat) (Option.none : Option Jvm.ClassFile.FieldType), Jvm.Cond.code ({ cls := "java/lang/Math", name := "max", desc := "(JJ)J" } : Jvm.MethodName) jdk_29_method_66_code (4 : Nat) (Option.some Jvm.ClassFile.FieldType.long), Jvm.Cond.code ({ cls := "java/lang/Math", name := "min", desc := "(JJ)J" } : Jvm.MethodName) jdk_29_method_70_code (4 : Nat) (Option.some Jvm.ClassFile.FieldType.long), Jvm.Cond.code ({ cls := "com/example/faultloom/faultloom/analysis/RangeFilter", name := "keeps", desc := "(D)Z" } : Jvm.MethodName) prog_25_method_2_code (3 : Nat) (Option.some Jvm.ClassFile.FieldType.boolean)]
set_option maxRecDepth 65536 in
theorem codes_eq : words1.filter isCode = codes1 := rfl
theorem w_codes : ∀ c ∈ words1.filter isCode, c.before args0 about1 = true := by
  rw [codes_eq]
  intro c hc
  simp only [codes1, List.mem_cons, List.not_mem_nil, or_false] at hc
  rcases hc with rfl | rfl | rfl | rfl | rfl | rfl | rfl | rfl | rfl | rfl | rfl | rfl
  · exact w_c0
  · exact w_c1
  · exact w_c2
  · exact w_c3
  · exact w_c4
  · exact w_c5
  · exact w_c6
  · exact w_c7
  · exact w_c8
  · exact w_c9
  · exact w_c10
  · exact w_c11
set_option maxRecDepth 65536 in
theorem w_t1 : (words1.take 24).all (fun c => isCode c || c.before args0 about1) = true := by decide +kernel
set_option maxRecDepth 65536 in
theorem w_t2 : ((words1.drop 24).take 24).all (fun c => isCode c || c.before args0 about1) = true := by decide +kernel
set_option maxRecDepth 65536 in
theorem w_t3 : ((words1.drop 24).drop 24).all (fun c => isCode c || c.before args0 about1) = true := by decide +kernel
theorem w_tables : (allAtoms (Jvm.Cond.code x code maxLocals ret :: tables_1)).before args0 about1 = true := by
  rw [allAtoms_all]
  show words1.all (fun c => c.before args0 about1) = true
  refine all_split ?_ w_codes
  rw [← List.take_append_drop 24 words1, List.all_append, w_t1, ← List.take_append_drop 24 (words1.drop 24), List.all_append, w_t2, w_t3]
  rfl
set_option maxRecDepth 65536 in
theorem w_rest : rest_1_c.before args0 about1 = true := by decide +kernel
set_option maxRecDepth 65536 in
theorem w_case : (Jvm.Cond.and given_1 narrow_1).before args0 about1 = true := by decide +kernel
theorem w_applies : (headSpec (Jvm.Cond.code x code maxLocals ret :: tables_1) room_1).applies x e0.platform about1 = true :=
  (Spec.applies_iff w_frames).mpr ⟨w_running, w_runnable, w_alone, w_named, w_hears, w_ripe, w_room, w_tables⟩
theorem atStart : AtStart classFile x code maxLocals ret World_1 tables_1 room_1 Calls_1 rest_1 Pre_1 launch0 p0 e0 about1 theMethod args0 below0 :=
  ⟨lists_1, trivial, launch0.admits_env _ _ _, launch0.least_env, fairChoices_fair.cas, fairChoices_fair.clock, w_frames, w_args, w_heap, w_applies, trivial, w_rest, w_case⟩
end start1
theorem witness_1 : WitnessClaimed_1 := ⟨start1.p0, start1.e0, start1.about1, start1.theMethod, start1.args0, start1.below0, start1.atStart⟩
end Jvm.Pilot.@@N@@
