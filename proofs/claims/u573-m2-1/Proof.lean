import JvmDerived
import JvmDerived.Pilot.@@N@@Statement
import JvmDerived.Pilot.@@N@@Code
set_option linter.unusedVariables false
set_option linter.unusedSimpArgs false
namespace Jvm.Own
open Jvm Jvm.ClassFile Sem Op Lib Jvm.Free Jvm.Stand Jvm.LawKit Jvm.RoadKit Bundle
/-- from this point the run comes to its end, and there En holds -/
def Go (p : Program) (l : Launch) (e : Env) (R : Room) (s : State) (m : MethodId) (args : Array Value) (below : List Frame) (meth : Method) (c : Code) (Z : State) (own : String) (n0 : Nat) (Bs : Vm → Heap → Prop) (En : Outcome → State → List Loc → Prop) (h : Heap) (cells slots pc : Nat) (Ls : Array Slot) (S : List Value) : Prop :=
  ∀ (vm0 : Vm) (T : State) (locs : List Loc), Z.Warmed39 vm0 → vm0.findClass own = some m.cls → Bs vm0 h → Stand p l e R (s.setVm vm0) m args below meth c T locs cells slots → Fr n0 locs → T.heap = h →
    ∃ (s₂ : State) (o : Outcome) (L : List Loc), Steps p.tables e below (T.setTop (mkF m pc Ls S)) s₂ ∧ s₂.status = .running ∧ Ended s₂ below o ∧ En o s₂ L
/-- what a walk knows of its method -/
def Cx (p : Program) (meth : Method) (c : Code) (bytes : ByteArray) (ml : Nat) (ret : Option FieldType) : Prop := p.tables.exec = Jvm.exec ∧ c.code = bytes ∧ c.maxLocals = ml ∧ meth.sig.returnType = ret ∧ meth.locks = false
section Rules
variable {p : Program} {l : Launch} {e : Env} {R : Room} {s : State} {m : MethodId} {args : Array Value} {below : List Frame} {meth : Method} {c : Code} {Z : State} {own : String} {n0 : Nat} {Bs : Vm → Heap → Prop} {En : Outcome → State → List Loc → Prop} {h : Heap} {cells slots pc pc' : Nat} {Ls : Array Slot} {S : List Value} {bytes : ByteArray} {ml : Nat} {ret : Option FieldType} {a0 : Array Value}
theorem Go.st {Ls' : Array Slot} {S' : List Value} (f : ∀ T : State, At T m c below → ∀ target, Steps p.tables e below (T.setTop (mkF m pc' Ls' S')) target → Steps p.tables e below (T.setTop (mkF m pc Ls S)) target) (K : Go p l e R s m args below meth c Z own n0 Bs En h cells slots pc' Ls' S') : Go p l e R s m args below meth c Z own n0 Bs En h cells slots pc Ls S := fun vm0 T locs q1 q2 q3 X q4 q5 => by
  obtain ⟨s₂, o, L, h1, h2⟩ := K vm0 T locs q1 q2 q3 X q4 q5
  exact ⟨s₂, o, L, f T X.here _ h1, h2⟩
theorem Go.bs {Bs' : Vm → Heap → Prop} (q : ∀ vm, Bs vm h → Bs' vm h) (K : Go p l e R s m args below meth c Z own n0 Bs' En h cells slots pc Ls S) : Go p l e R s m args below meth c Z own n0 Bs En h cells slots pc Ls S := fun vm0 T locs q1 q2 q3 X q4 q5 => K vm0 T locs q1 q2 (q vm0 q3) X q4 q5
theorem Go.iload (C : Cx p meth c bytes ml ret) {k : Nat} {v : Int32} (hd : decode bytes pc = .ok (.iload k, 2)) (hl : Ls[k]? = some (.val (.int v))) (hp : pc + 2 = pc') (K : Go p l e R s m args below meth c Z own n0 Bs En h cells slots pc' Ls (.int v :: S)) : Go p l e R s m args below meth c Z own n0 Bs En h cells slots pc Ls (S) := by
  subst hp; exact Go.st (fun T X t q => XS.iload X C.1 rfl (hb C.2.1 hd) hl q) K
theorem Go.iloadN (C : Cx p meth c bytes ml ret) {k : Fin 4} {v : Int32} (hd : decode bytes pc = .ok (.iload_n k, 1)) (hl : Ls[k.val]? = some (.val (.int v))) (hp : pc + 1 = pc') (K : Go p l e R s m args below meth c Z own n0 Bs En h cells slots pc' Ls (.int v :: S)) : Go p l e R s m args below meth c Z own n0 Bs En h cells slots pc Ls (S) := by
  subst hp; exact Go.st (fun T X t q => XS.iloadN X C.1 rfl (hb C.2.1 hd) hl q) K
theorem Go.istore (C : Cx p meth c bytes ml ret) {k : Nat} {x : Int32} {L' : Array Slot} (hd : decode bytes pc = .ok (.istore k, 2)) (hl : storeLocals Ls k (.int x) = some L') (hp : pc + 2 = pc') (K : Go p l e R s m args below meth c Z own n0 Bs En h cells slots pc' L' (S)) : Go p l e R s m args below meth c Z own n0 Bs En h cells slots pc Ls (.int x :: S) := by
  subst hp; exact Go.st (fun T X t q => XS.istore X C.1 rfl (hb C.2.1 hd) rfl hl q) K
theorem Go.istoreN (C : Cx p meth c bytes ml ret) {k : Fin 4} {x : Int32} {L' : Array Slot} (hd : decode bytes pc = .ok (.istore_n k, 1)) (hl : storeLocals Ls k.val (.int x) = some L') (hp : pc + 1 = pc') (K : Go p l e R s m args below meth c Z own n0 Bs En h cells slots pc' L' (S)) : Go p l e R s m args below meth c Z own n0 Bs En h cells slots pc Ls (.int x :: S) := by
  subst hp; exact Go.st (fun T X t q => XS.istoreN X C.1 rfl (hb C.2.1 hd) rfl hl q) K
theorem Go.lload (C : Cx p meth c bytes ml ret) {k : Nat} {v : Int64} (hd : decode bytes pc = .ok (.lload k, 2)) (hl : Ls[k]? = some (.val (.long v))) (hp : pc + 2 = pc') (K : Go p l e R s m args below meth c Z own n0 Bs En h cells slots pc' Ls (.long v :: S)) : Go p l e R s m args below meth c Z own n0 Bs En h cells slots pc Ls (S) := by
  subst hp; exact Go.st (fun T X t q => XS.lload X C.1 rfl (hb C.2.1 hd) hl q) K
theorem Go.lloadN (C : Cx p meth c bytes ml ret) {k : Fin 4} {v : Int64} (hd : decode bytes pc = .ok (.lload_n k, 1)) (hl : Ls[k.val]? = some (.val (.long v))) (hp : pc + 1 = pc') (K : Go p l e R s m args below meth c Z own n0 Bs En h cells slots pc' Ls (.long v :: S)) : Go p l e R s m args below meth c Z own n0 Bs En h cells slots pc Ls (S) := by
  subst hp; exact Go.st (fun T X t q => XS.lloadN X C.1 rfl (hb C.2.1 hd) hl q) K
theorem Go.lstore (C : Cx p meth c bytes ml ret) {k : Nat} {x : Int64} {L' : Array Slot} (hd : decode bytes pc = .ok (.lstore k, 2)) (hl : storeLocals Ls k (.long x) = some L') (hp : pc + 2 = pc') (K : Go p l e R s m args below meth c Z own n0 Bs En h cells slots pc' L' (S)) : Go p l e R s m args below meth c Z own n0 Bs En h cells slots pc Ls (.long x :: S) := by
  subst hp; exact Go.st (fun T X t q => XS.lstore X C.1 rfl (hb C.2.1 hd) rfl hl q) K
theorem Go.lstoreN (C : Cx p meth c bytes ml ret) {k : Fin 4} {x : Int64} {L' : Array Slot} (hd : decode bytes pc = .ok (.lstore_n k, 1)) (hl : storeLocals Ls k.val (.long x) = some L') (hp : pc + 1 = pc') (K : Go p l e R s m args below meth c Z own n0 Bs En h cells slots pc' L' (S)) : Go p l e R s m args below meth c Z own n0 Bs En h cells slots pc Ls (.long x :: S) := by
  subst hp; exact Go.st (fun T X t q => XS.lstoreN X C.1 rfl (hb C.2.1 hd) rfl hl q) K
theorem Go.dload (C : Cx p meth c bytes ml ret) {k : Nat} {v : UInt64} (hd : decode bytes pc = .ok (.dload k, 2)) (hl : Ls[k]? = some (.val (.double v))) (hp : pc + 2 = pc') (K : Go p l e R s m args below meth c Z own n0 Bs En h cells slots pc' Ls (.double v :: S)) : Go p l e R s m args below meth c Z own n0 Bs En h cells slots pc Ls (S) := by
  subst hp; exact Go.st (fun T X t q => XS.dload X C.1 rfl (hb C.2.1 hd) hl q) K
theorem Go.dloadN (C : Cx p meth c bytes ml ret) {k : Fin 4} {v : UInt64} (hd : decode bytes pc = .ok (.dload_n k, 1)) (hl : Ls[k.val]? = some (.val (.double v))) (hp : pc + 1 = pc') (K : Go p l e R s m args below meth c Z own n0 Bs En h cells slots pc' Ls (.double v :: S)) : Go p l e R s m args below meth c Z own n0 Bs En h cells slots pc Ls (S) := by
  subst hp; exact Go.st (fun T X t q => XS.dloadN X C.1 rfl (hb C.2.1 hd) hl q) K
theorem Go.dstore (C : Cx p meth c bytes ml ret) {k : Nat} {x : UInt64} {L' : Array Slot} (hd : decode bytes pc = .ok (.dstore k, 2)) (hl : storeLocals Ls k (.double x) = some L') (hp : pc + 2 = pc') (K : Go p l e R s m args below meth c Z own n0 Bs En h cells slots pc' L' (S)) : Go p l e R s m args below meth c Z own n0 Bs En h cells slots pc Ls (.double x :: S) := by
  subst hp; exact Go.st (fun T X t q => XS.dstore X C.1 rfl (hb C.2.1 hd) rfl hl q) K
theorem Go.dstoreN (C : Cx p meth c bytes ml ret) {k : Fin 4} {x : UInt64} {L' : Array Slot} (hd : decode bytes pc = .ok (.dstore_n k, 1)) (hl : storeLocals Ls k.val (.double x) = some L') (hp : pc + 1 = pc') (K : Go p l e R s m args below meth c Z own n0 Bs En h cells slots pc' L' (S)) : Go p l e R s m args below meth c Z own n0 Bs En h cells slots pc Ls (.double x :: S) := by
  subst hp; exact Go.st (fun T X t q => XS.dstoreN X C.1 rfl (hb C.2.1 hd) rfl hl q) K
theorem Go.aload (C : Cx p meth c bytes ml ret) {k : Nat} {v : Value} (hd : decode bytes pc = .ok (.aload k, 2)) (hl : Ls[k]? = some (.val v)) (hv : v.isRef = true) (hp : pc + 2 = pc') (K : Go p l e R s m args below meth c Z own n0 Bs En h cells slots pc' Ls (v :: S)) : Go p l e R s m args below meth c Z own n0 Bs En h cells slots pc Ls (S) := by
  subst hp; exact Go.st (fun T X t q => XS.aload X C.1 rfl (hb C.2.1 hd) hl hv q) K
theorem Go.aloadN (C : Cx p meth c bytes ml ret) {k : Fin 4} {v : Value} (hd : decode bytes pc = .ok (.aload_n k, 1)) (hl : Ls[k.val]? = some (.val v)) (hv : v.isRef = true) (hp : pc + 1 = pc') (K : Go p l e R s m args below meth c Z own n0 Bs En h cells slots pc' Ls (v :: S)) : Go p l e R s m args below meth c Z own n0 Bs En h cells slots pc Ls (S) := by
  subst hp; exact Go.st (fun T X t q => XS.aloadN X C.1 rfl (hb C.2.1 hd) hl hv q) K
theorem Go.astore (C : Cx p meth c bytes ml ret) {k : Nat} {x : Value} {L' : Array Slot} (hd : decode bytes pc = .ok (.astore k, 2)) (hv : x.isRef = true) (hl : storeLocals Ls k x = some L') (hp : pc + 2 = pc') (K : Go p l e R s m args below meth c Z own n0 Bs En h cells slots pc' L' (S)) : Go p l e R s m args below meth c Z own n0 Bs En h cells slots pc Ls (x :: S) := by
  subst hp; exact Go.st (fun T X t q => XS.astore X C.1 rfl (hb C.2.1 hd) rfl hv hl q) K
theorem Go.astoreN (C : Cx p meth c bytes ml ret) {k : Fin 4} {x : Value} {L' : Array Slot} (hd : decode bytes pc = .ok (.astore_n k, 1)) (hv : x.isRef = true) (hl : storeLocals Ls k.val x = some L') (hp : pc + 1 = pc') (K : Go p l e R s m args below meth c Z own n0 Bs En h cells slots pc' L' (S)) : Go p l e R s m args below meth c Z own n0 Bs En h cells slots pc Ls (x :: S) := by
  subst hp; exact Go.st (fun T X t q => XS.astoreN X C.1 rfl (hb C.2.1 hd) rfl hv hl q) K
theorem Go.iconst (C : Cx p meth c bytes ml ret) {i : Int} {v : Int32} (hd : decode bytes pc = .ok (.iconst i, 1)) (hv : Int32.ofInt i = v) (hp : pc + 1 = pc') (K : Go p l e R s m args below meth c Z own n0 Bs En h cells slots pc' Ls (.int v :: S)) : Go p l e R s m args below meth c Z own n0 Bs En h cells slots pc Ls (S) := by
  subst hp; exact Go.st (fun T X t q => by subst hv; exact XS.iconst X C.1 rfl (hb C.2.1 hd)  q) K
theorem Go.lconst (C : Cx p meth c bytes ml ret) {k : Fin 2} {v : Int64} (hd : decode bytes pc = .ok (.lconst k, 1)) (hv : Int64.ofNat k = v) (hp : pc + 1 = pc') (K : Go p l e R s m args below meth c Z own n0 Bs En h cells slots pc' Ls (.long v :: S)) : Go p l e R s m args below meth c Z own n0 Bs En h cells slots pc Ls (S) := by
  subst hp; exact Go.st (fun T X t q => by subst hv; exact XS.lconst X C.1 rfl (hb C.2.1 hd)  q) K
theorem Go.dconst0 (C : Cx p meth c bytes ml ret) {v : UInt64} (hd : decode bytes pc = .ok (.dconst 0, 1)) (hv : FP.dconst0 = v) (hp : pc + 1 = pc') (K : Go p l e R s m args below meth c Z own n0 Bs En h cells slots pc' Ls (.double v :: S)) : Go p l e R s m args below meth c Z own n0 Bs En h cells slots pc Ls (S) := by
  subst hp; exact Go.st (fun T X t q => XS.dconst0 X C.1 rfl (hb C.2.1 hd) hv q) K
theorem Go.dconst1 (C : Cx p meth c bytes ml ret) {v : UInt64} (hd : decode bytes pc = .ok (.dconst 1, 1)) (hv : FP.dconst1 = v) (hp : pc + 1 = pc') (K : Go p l e R s m args below meth c Z own n0 Bs En h cells slots pc' Ls (.double v :: S)) : Go p l e R s m args below meth c Z own n0 Bs En h cells slots pc Ls (S) := by
  subst hp; exact Go.st (fun T X t q => XS.dconst1 X C.1 rfl (hb C.2.1 hd) hv q) K
theorem Go.bipush (C : Cx p meth c bytes ml ret) {i : Int} {v : Int32} (hd : decode bytes pc = .ok (.bipush i, 2)) (hv : (Int8.ofInt i).toInt32 = v) (hp : pc + 2 = pc') (K : Go p l e R s m args below meth c Z own n0 Bs En h cells slots pc' Ls (.int v :: S)) : Go p l e R s m args below meth c Z own n0 Bs En h cells slots pc Ls (S) := by
  subst hp; exact Go.st (fun T X t q => by subst hv; exact XS.bipush X C.1 rfl (hb C.2.1 hd)  q) K
theorem Go.sipush (C : Cx p meth c bytes ml ret) {i : Int} {v : Int32} (hd : decode bytes pc = .ok (.sipush i, 3)) (hv : (Int16.ofInt i).toInt32 = v) (hp : pc + 3 = pc') (K : Go p l e R s m args below meth c Z own n0 Bs En h cells slots pc' Ls (.int v :: S)) : Go p l e R s m args below meth c Z own n0 Bs En h cells slots pc Ls (S) := by
  subst hp; exact Go.st (fun T X t q => by subst hv; exact XS.sipush X C.1 rfl (hb C.2.1 hd)  q) K
theorem Go.aconstNull (C : Cx p meth c bytes ml ret)  (hd : decode bytes pc = .ok (.aconst_null, 1))  (hp : pc + 1 = pc') (K : Go p l e R s m args below meth c Z own n0 Bs En h cells slots pc' Ls (.null :: S)) : Go p l e R s m args below meth c Z own n0 Bs En h cells slots pc Ls (S) := by
  subst hp; exact Go.st (fun T X t q => XS.aconstNull X C.1 rfl (hb C.2.1 hd)  q) K
theorem Go.dup (C : Cx p meth c bytes ml ret) {x : Value} (hd : decode bytes pc = .ok (.dup, 1)) (hc : x.category = 1) (hp : pc + 1 = pc') (K : Go p l e R s m args below meth c Z own n0 Bs En h cells slots pc' Ls (x :: x :: S)) : Go p l e R s m args below meth c Z own n0 Bs En h cells slots pc Ls (x :: S) := by
  subst hp; exact Go.st (fun T X t q => XS.dup X C.1 rfl (hb C.2.1 hd) rfl hc q) K
theorem Go.dupX1 (C : Cx p meth c bytes ml ret) {x y : Value} (hd : decode bytes pc = .ok (.dup_x1, 1)) (hc : x.category = 1) (hc2 : y.category = 1) (hp : pc + 1 = pc') (K : Go p l e R s m args below meth c Z own n0 Bs En h cells slots pc' Ls (x :: y :: x :: S)) : Go p l e R s m args below meth c Z own n0 Bs En h cells slots pc Ls (x :: y :: S) := by
  subst hp; exact Go.st (fun T X t q => XS.dupX1 X C.1 rfl (hb C.2.1 hd) rfl hc hc2 q) K
theorem Go.pop (C : Cx p meth c bytes ml ret) {x : Value} (hd : decode bytes pc = .ok (.pop, 1)) (hc : x.category = 1) (hp : pc + 1 = pc') (K : Go p l e R s m args below meth c Z own n0 Bs En h cells slots pc' Ls (S)) : Go p l e R s m args below meth c Z own n0 Bs En h cells slots pc Ls (x :: S) := by
  subst hp; exact Go.st (fun T X t q => XS.pop X C.1 rfl (hb C.2.1 hd) rfl hc q) K
theorem Go.iadd (C : Cx p meth c bytes ml ret) {x y : Int32} (hd : decode bytes pc = .ok (.iadd, 1))  (hp : pc + 1 = pc') (K : Go p l e R s m args below meth c Z own n0 Bs En h cells slots pc' Ls (.int (x + y) :: S)) : Go p l e R s m args below meth c Z own n0 Bs En h cells slots pc Ls (.int y :: .int x :: S) := by
  subst hp; exact Go.st (fun T X t q => XS.iadd X C.1 rfl (hb C.2.1 hd) rfl q) K
theorem Go.isub (C : Cx p meth c bytes ml ret) {x y : Int32} (hd : decode bytes pc = .ok (.isub, 1))  (hp : pc + 1 = pc') (K : Go p l e R s m args below meth c Z own n0 Bs En h cells slots pc' Ls (.int (x - y) :: S)) : Go p l e R s m args below meth c Z own n0 Bs En h cells slots pc Ls (.int y :: .int x :: S) := by
  subst hp; exact Go.st (fun T X t q => XS.isub X C.1 rfl (hb C.2.1 hd) rfl q) K
theorem Go.imul (C : Cx p meth c bytes ml ret) {x y : Int32} (hd : decode bytes pc = .ok (.imul, 1))  (hp : pc + 1 = pc') (K : Go p l e R s m args below meth c Z own n0 Bs En h cells slots pc' Ls (.int (x * y) :: S)) : Go p l e R s m args below meth c Z own n0 Bs En h cells slots pc Ls (.int y :: .int x :: S) := by
  subst hp; exact Go.st (fun T X t q => XS.imul X C.1 rfl (hb C.2.1 hd) rfl q) K
theorem Go.iand (C : Cx p meth c bytes ml ret) {x y : Int32} (hd : decode bytes pc = .ok (.iand, 1))  (hp : pc + 1 = pc') (K : Go p l e R s m args below meth c Z own n0 Bs En h cells slots pc' Ls (.int (x &&& y) :: S)) : Go p l e R s m args below meth c Z own n0 Bs En h cells slots pc Ls (.int y :: .int x :: S) := by
  subst hp; exact Go.st (fun T X t q => XS.iand X C.1 rfl (hb C.2.1 hd) rfl q) K
theorem Go.ior (C : Cx p meth c bytes ml ret) {x y : Int32} (hd : decode bytes pc = .ok (.ior, 1))  (hp : pc + 1 = pc') (K : Go p l e R s m args below meth c Z own n0 Bs En h cells slots pc' Ls (.int (x ||| y) :: S)) : Go p l e R s m args below meth c Z own n0 Bs En h cells slots pc Ls (.int y :: .int x :: S) := by
  subst hp; exact Go.st (fun T X t q => XS.ior X C.1 rfl (hb C.2.1 hd) rfl q) K
theorem Go.ixor (C : Cx p meth c bytes ml ret) {x y : Int32} (hd : decode bytes pc = .ok (.ixor, 1))  (hp : pc + 1 = pc') (K : Go p l e R s m args below meth c Z own n0 Bs En h cells slots pc' Ls (.int (x ^^^ y) :: S)) : Go p l e R s m args below meth c Z own n0 Bs En h cells slots pc Ls (.int y :: .int x :: S) := by
  subst hp; exact Go.st (fun T X t q => XS.ixor X C.1 rfl (hb C.2.1 hd) rfl q) K
theorem Go.ishl (C : Cx p meth c bytes ml ret) {x y : Int32} (hd : decode bytes pc = .ok (.ishl, 1))  (hp : pc + 1 = pc') (K : Go p l e R s m args below meth c Z own n0 Bs En h cells slots pc' Ls (.int (x <<< (y &&& 31)) :: S)) : Go p l e R s m args below meth c Z own n0 Bs En h cells slots pc Ls (.int y :: .int x :: S) := by
  subst hp; exact Go.st (fun T X t q => XS.ishl X C.1 rfl (hb C.2.1 hd) rfl q) K
theorem Go.ishr (C : Cx p meth c bytes ml ret) {x y : Int32} (hd : decode bytes pc = .ok (.ishr, 1))  (hp : pc + 1 = pc') (K : Go p l e R s m args below meth c Z own n0 Bs En h cells slots pc' Ls (.int (x >>> (y &&& 31)) :: S)) : Go p l e R s m args below meth c Z own n0 Bs En h cells slots pc Ls (.int y :: .int x :: S) := by
  subst hp; exact Go.st (fun T X t q => XS.ishr X C.1 rfl (hb C.2.1 hd) rfl q) K
theorem Go.iushr (C : Cx p meth c bytes ml ret) {x y : Int32} (hd : decode bytes pc = .ok (.iushr, 1))  (hp : pc + 1 = pc') (K : Go p l e R s m args below meth c Z own n0 Bs En h cells slots pc' Ls (.int ((x.toUInt32 >>> (y &&& 31).toUInt32).toInt32) :: S)) : Go p l e R s m args below meth c Z own n0 Bs En h cells slots pc Ls (.int y :: .int x :: S) := by
  subst hp; exact Go.st (fun T X t q => XS.iushr X C.1 rfl (hb C.2.1 hd) rfl q) K
theorem Go.idiv (C : Cx p meth c bytes ml ret) {x y : Int32} (hd : decode bytes pc = .ok (.idiv, 1)) (hy : y ≠ 0) (hp : pc + 1 = pc') (K : Go p l e R s m args below meth c Z own n0 Bs En h cells slots pc' Ls (.int (x / y) :: S)) : Go p l e R s m args below meth c Z own n0 Bs En h cells slots pc Ls (.int y :: .int x :: S) := by
  subst hp; exact Go.st (fun T X t q => XS.idiv X C.1 rfl (hb C.2.1 hd) rfl hy q) K
theorem Go.irem (C : Cx p meth c bytes ml ret) {x y : Int32} (hd : decode bytes pc = .ok (.irem, 1)) (hy : y ≠ 0) (hp : pc + 1 = pc') (K : Go p l e R s m args below meth c Z own n0 Bs En h cells slots pc' Ls (.int (x % y) :: S)) : Go p l e R s m args below meth c Z own n0 Bs En h cells slots pc Ls (.int y :: .int x :: S) := by
  subst hp; exact Go.st (fun T X t q => XS.irem X C.1 rfl (hb C.2.1 hd) rfl hy (by rw [irem_eq_mod]; exact q)) K
theorem Go.ladd (C : Cx p meth c bytes ml ret) {x y : Int64} (hd : decode bytes pc = .ok (.ladd, 1))  (hp : pc + 1 = pc') (K : Go p l e R s m args below meth c Z own n0 Bs En h cells slots pc' Ls (.long (x + y) :: S)) : Go p l e R s m args below meth c Z own n0 Bs En h cells slots pc Ls (.long y :: .long x :: S) := by
  subst hp; exact Go.st (fun T X t q => XS.ladd X C.1 rfl (hb C.2.1 hd) rfl q) K
theorem Go.lsub (C : Cx p meth c bytes ml ret) {x y : Int64} (hd : decode bytes pc = .ok (.lsub, 1))  (hp : pc + 1 = pc') (K : Go p l e R s m args below meth c Z own n0 Bs En h cells slots pc' Ls (.long (x - y) :: S)) : Go p l e R s m args below meth c Z own n0 Bs En h cells slots pc Ls (.long y :: .long x :: S) := by
  subst hp; exact Go.st (fun T X t q => XS.lsub X C.1 rfl (hb C.2.1 hd) rfl q) K
theorem Go.lmul (C : Cx p meth c bytes ml ret) {x y : Int64} (hd : decode bytes pc = .ok (.lmul, 1))  (hp : pc + 1 = pc') (K : Go p l e R s m args below meth c Z own n0 Bs En h cells slots pc' Ls (.long (x * y) :: S)) : Go p l e R s m args below meth c Z own n0 Bs En h cells slots pc Ls (.long y :: .long x :: S) := by
  subst hp; exact Go.st (fun T X t q => XS.lmul X C.1 rfl (hb C.2.1 hd) rfl q) K
theorem Go.land (C : Cx p meth c bytes ml ret) {x y : Int64} (hd : decode bytes pc = .ok (.land, 1))  (hp : pc + 1 = pc') (K : Go p l e R s m args below meth c Z own n0 Bs En h cells slots pc' Ls (.long (x &&& y) :: S)) : Go p l e R s m args below meth c Z own n0 Bs En h cells slots pc Ls (.long y :: .long x :: S) := by
  subst hp; exact Go.st (fun T X t q => XS.land X C.1 rfl (hb C.2.1 hd) rfl q) K
theorem Go.lor (C : Cx p meth c bytes ml ret) {x y : Int64} (hd : decode bytes pc = .ok (.lor, 1))  (hp : pc + 1 = pc') (K : Go p l e R s m args below meth c Z own n0 Bs En h cells slots pc' Ls (.long (x ||| y) :: S)) : Go p l e R s m args below meth c Z own n0 Bs En h cells slots pc Ls (.long y :: .long x :: S) := by
  subst hp; exact Go.st (fun T X t q => XS.lor X C.1 rfl (hb C.2.1 hd) rfl q) K
theorem Go.lxor (C : Cx p meth c bytes ml ret) {x y : Int64} (hd : decode bytes pc = .ok (.lxor, 1))  (hp : pc + 1 = pc') (K : Go p l e R s m args below meth c Z own n0 Bs En h cells slots pc' Ls (.long (x ^^^ y) :: S)) : Go p l e R s m args below meth c Z own n0 Bs En h cells slots pc Ls (.long y :: .long x :: S) := by
  subst hp; exact Go.st (fun T X t q => XS.lxor X C.1 rfl (hb C.2.1 hd) rfl q) K
theorem Go.lshl (C : Cx p meth c bytes ml ret) {x : Int64} {y : Int32} (hd : decode bytes pc = .ok (.lshl, 1))  (hp : pc + 1 = pc') (K : Go p l e R s m args below meth c Z own n0 Bs En h cells slots pc' Ls (.long (x <<< (y &&& 0x3f).toInt64) :: S)) : Go p l e R s m args below meth c Z own n0 Bs En h cells slots pc Ls (.int y :: .long x :: S) := by
  subst hp; exact Go.st (fun T X t q => XS.lshl X C.1 rfl (hb C.2.1 hd) rfl q) K
theorem Go.lshr (C : Cx p meth c bytes ml ret) {x : Int64} {y : Int32} (hd : decode bytes pc = .ok (.lshr, 1))  (hp : pc + 1 = pc') (K : Go p l e R s m args below meth c Z own n0 Bs En h cells slots pc' Ls (.long (x >>> (y &&& 0x3f).toInt64) :: S)) : Go p l e R s m args below meth c Z own n0 Bs En h cells slots pc Ls (.int y :: .long x :: S) := by
  subst hp; exact Go.st (fun T X t q => XS.lshr X C.1 rfl (hb C.2.1 hd) rfl q) K
theorem Go.lushr (C : Cx p meth c bytes ml ret) {x : Int64} {y : Int32} (hd : decode bytes pc = .ok (.lushr, 1))  (hp : pc + 1 = pc') (K : Go p l e R s m args below meth c Z own n0 Bs En h cells slots pc' Ls (.long ((x.toUInt64 >>> (y &&& 0x3f).toInt64.toUInt64).toInt64) :: S)) : Go p l e R s m args below meth c Z own n0 Bs En h cells slots pc Ls (.int y :: .long x :: S) := by
  subst hp; exact Go.st (fun T X t q => XS.lushr X C.1 rfl (hb C.2.1 hd) rfl q) K
theorem Go.ineg (C : Cx p meth c bytes ml ret) {v : Int32} (hd : decode bytes pc = .ok (.ineg, 1))  (hp : pc + 1 = pc') (K : Go p l e R s m args below meth c Z own n0 Bs En h cells slots pc' Ls (.int (-v) :: S)) : Go p l e R s m args below meth c Z own n0 Bs En h cells slots pc Ls (.int v :: S) := by
  subst hp; exact Go.st (fun T X t q => XS.ineg X C.1 rfl (hb C.2.1 hd) rfl q) K
theorem Go.i2b (C : Cx p meth c bytes ml ret) {v : Int32} (hd : decode bytes pc = .ok (.i2b, 1))  (hp : pc + 1 = pc') (K : Go p l e R s m args below meth c Z own n0 Bs En h cells slots pc' Ls (.int (v.toInt8.toInt32) :: S)) : Go p l e R s m args below meth c Z own n0 Bs En h cells slots pc Ls (.int v :: S) := by
  subst hp; exact Go.st (fun T X t q => XS.i2b X C.1 rfl (hb C.2.1 hd) rfl q) K
theorem Go.i2c (C : Cx p meth c bytes ml ret) {v : Int32} (hd : decode bytes pc = .ok (.i2c, 1))  (hp : pc + 1 = pc') (K : Go p l e R s m args below meth c Z own n0 Bs En h cells slots pc' Ls (.int (v.toUInt32.toUInt16.toUInt32.toInt32) :: S)) : Go p l e R s m args below meth c Z own n0 Bs En h cells slots pc Ls (.int v :: S) := by
  subst hp; exact Go.st (fun T X t q => XS.i2c X C.1 rfl (hb C.2.1 hd) rfl q) K
theorem Go.i2s (C : Cx p meth c bytes ml ret) {v : Int32} (hd : decode bytes pc = .ok (.i2s, 1))  (hp : pc + 1 = pc') (K : Go p l e R s m args below meth c Z own n0 Bs En h cells slots pc' Ls (.int (v.toInt16.toInt32) :: S)) : Go p l e R s m args below meth c Z own n0 Bs En h cells slots pc Ls (.int v :: S) := by
  subst hp; exact Go.st (fun T X t q => XS.i2s X C.1 rfl (hb C.2.1 hd) rfl q) K
theorem Go.i2l (C : Cx p meth c bytes ml ret) {v : Int32} (hd : decode bytes pc = .ok (.i2l, 1))  (hp : pc + 1 = pc') (K : Go p l e R s m args below meth c Z own n0 Bs En h cells slots pc' Ls (.long (v.toInt64) :: S)) : Go p l e R s m args below meth c Z own n0 Bs En h cells slots pc Ls (.int v :: S) := by
  subst hp; exact Go.st (fun T X t q => XS.i2l X C.1 rfl (hb C.2.1 hd) rfl q) K
theorem Go.l2i (C : Cx p meth c bytes ml ret) {v : Int64} (hd : decode bytes pc = .ok (.l2i, 1))  (hp : pc + 1 = pc') (K : Go p l e R s m args below meth c Z own n0 Bs En h cells slots pc' Ls (.int (v.toInt32) :: S)) : Go p l e R s m args below meth c Z own n0 Bs En h cells slots pc Ls (.long v :: S) := by
  subst hp; exact Go.st (fun T X t q => XS.l2i X C.1 rfl (hb C.2.1 hd) rfl q) K
theorem Go.lneg (C : Cx p meth c bytes ml ret) {v : Int64} (hd : decode bytes pc = .ok (.lneg, 1))  (hp : pc + 1 = pc') (K : Go p l e R s m args below meth c Z own n0 Bs En h cells slots pc' Ls (.long (-v) :: S)) : Go p l e R s m args below meth c Z own n0 Bs En h cells slots pc Ls (.long v :: S) := by
  subst hp; exact Go.st (fun T X t q => XS.lneg X C.1 rfl (hb C.2.1 hd) rfl q) K
theorem Go.lcmp (C : Cx p meth c bytes ml ret) {x y : Int64} (hd : decode bytes pc = .ok (.lcmp, 1))  (hp : pc + 1 = pc') (K : Go p l e R s m args below meth c Z own n0 Bs En h cells slots pc' Ls (.int (lcmpW x y) :: S)) : Go p l e R s m args below meth c Z own n0 Bs En h cells slots pc Ls (.long y :: .long x :: S) := by
  subst hp; exact Go.st (fun T X t q => XS.lcmp X C.1 rfl (hb C.2.1 hd) rfl q) K
theorem Go.i2d (C : Cx p meth c bytes ml ret) {x : Int32} {v : UInt64} (hd : decode bytes pc = .ok (.i2d, 1)) (hv : FP.i2d x = v) (hp : pc + 1 = pc') (K : Go p l e R s m args below meth c Z own n0 Bs En h cells slots pc' Ls (.double v :: S)) : Go p l e R s m args below meth c Z own n0 Bs En h cells slots pc Ls (.int x :: S) := by
  subst hp; exact Go.st (fun T X t q => XS.i2dS X C.1 rfl (hb C.2.1 hd) rfl hv q) K
theorem Go.l2d (C : Cx p meth c bytes ml ret) {x : Int64} {v : UInt64} (hd : decode bytes pc = .ok (.l2d, 1)) (hv : FP.l2d x = v) (hp : pc + 1 = pc') (K : Go p l e R s m args below meth c Z own n0 Bs En h cells slots pc' Ls (.double v :: S)) : Go p l e R s m args below meth c Z own n0 Bs En h cells slots pc Ls (.long x :: S) := by
  subst hp; exact Go.st (fun T X t q => XS.l2dS X C.1 rfl (hb C.2.1 hd) rfl hv q) K
theorem Go.dadd (C : Cx p meth c bytes ml ret) {x y v : UInt64} (hd : decode bytes pc = .ok (.dadd, 1)) (hn : Jvm.Free.Fl.NoNaN64 (FP.dadd x y)) (hv : FP.dadd x y = v) (hp : pc + 1 = pc') (K : Go p l e R s m args below meth c Z own n0 Bs En h cells slots pc' Ls (.double v :: S)) : Go p l e R s m args below meth c Z own n0 Bs En h cells slots pc Ls (.double y :: .double x :: S) := by
  subst hp; exact Go.st (fun T X t q => XS.daddS X C.1 rfl (hb C.2.1 hd) rfl hn hv q) K
theorem Go.dsub (C : Cx p meth c bytes ml ret) {x y v : UInt64} (hd : decode bytes pc = .ok (.dsub, 1)) (hn : Jvm.Free.Fl.NoNaN64 (FP.dsub x y)) (hv : FP.dsub x y = v) (hp : pc + 1 = pc') (K : Go p l e R s m args below meth c Z own n0 Bs En h cells slots pc' Ls (.double v :: S)) : Go p l e R s m args below meth c Z own n0 Bs En h cells slots pc Ls (.double y :: .double x :: S) := by
  subst hp; exact Go.st (fun T X t q => XS.dsubS X C.1 rfl (hb C.2.1 hd) rfl hn hv q) K
theorem Go.dmul (C : Cx p meth c bytes ml ret) {x y v : UInt64} (hd : decode bytes pc = .ok (.dmul, 1)) (hn : Jvm.Free.Fl.NoNaN64 (FP.dmul x y)) (hv : FP.dmul x y = v) (hp : pc + 1 = pc') (K : Go p l e R s m args below meth c Z own n0 Bs En h cells slots pc' Ls (.double v :: S)) : Go p l e R s m args below meth c Z own n0 Bs En h cells slots pc Ls (.double y :: .double x :: S) := by
  subst hp; exact Go.st (fun T X t q => XS.dmulS X C.1 rfl (hb C.2.1 hd) rfl hn hv q) K
theorem Go.ddiv (C : Cx p meth c bytes ml ret) {x y v : UInt64} (hd : decode bytes pc = .ok (.ddiv, 1)) (hn : Jvm.Free.Fl.NoNaN64 (FP.ddiv x y)) (hv : FP.ddiv x y = v) (hp : pc + 1 = pc') (K : Go p l e R s m args below meth c Z own n0 Bs En h cells slots pc' Ls (.double v :: S)) : Go p l e R s m args below meth c Z own n0 Bs En h cells slots pc Ls (.double y :: .double x :: S) := by
  subst hp; exact Go.st (fun T X t q => XS.ddivS X C.1 rfl (hb C.2.1 hd) rfl hn hv q) K
theorem Go.dcmp (C : Cx p meth c bytes ml ret) {o : CmpOp} {x y : UInt64} {v : Int32} (hd : decode bytes pc = .ok (.dcmp o, 1)) (hv : cmpValue (FP.dcmp x y) o = v) (hp : pc + 1 = pc') (K : Go p l e R s m args below meth c Z own n0 Bs En h cells slots pc' Ls (.int v :: S)) : Go p l e R s m args below meth c Z own n0 Bs En h cells slots pc Ls (.double y :: .double x :: S) := by
  subst hp; exact Go.st (fun T X t q => XS.dcmpS X C.1 rfl (hb C.2.1 hd) rfl hv q) K
theorem Go.iinc (C : Cx p meth c bytes ml ret) {k : Nat} {cst : Int} {x y : Int32} {L' : Array Slot} (hd : decode bytes pc = .ok (.iinc k cst, 3)) (hl : Ls[k]? = some (.val (.int x))) (hy : x + Int32.ofInt cst = y) (hl' : storeLocals Ls k (.int y) = some L') (hp : pc + 3 = pc') (K : Go p l e R s m args below meth c Z own n0 Bs En h cells slots pc' L' (S)) : Go p l e R s m args below meth c Z own n0 Bs En h cells slots pc Ls (S) := by
  subst hp; exact Go.st (fun T X t q => by subst hy; exact XS.iinc X C.1 rfl (hb C.2.1 hd) hl hl' q) K
theorem Go.goto (C : Cx p meth c bytes ml ret) {o : Int} (hd : decode bytes pc = .ok (.goto o, 3)) (ho : 0 ≤ (pc : Int) + o) (hp : ((pc : Int) + o).toNat = pc') (K : Go p l e R s m args below meth c Z own n0 Bs En h cells slots pc' Ls S) : Go p l e R s m args below meth c Z own n0 Bs En h cells slots pc Ls S := Go.st (fun T X t q => XS.goto X C.1 rfl rfl (hb C.2.1 hd) ho hp q) K
theorem Go.icmp_eq_t (C : Cx p meth c bytes ml ret) {x y : Int32} {o : Int} (hd : decode bytes pc = .ok (.if_icmp .eq o, 3)) (H : x = y) (ho : 0 ≤ (pc : Int) + o) (hp : ((pc : Int) + o).toNat = pc') (K : Go p l e R s m args below meth c Z own n0 Bs En h cells slots pc' Ls S) : Go p l e R s m args below meth c Z own n0 Bs En h cells slots pc Ls (.int y :: .int x :: S) := Go.st (fun T X t q => XS.icmpYes X C.1 rfl rfl (hb C.2.1 hd) rfl ((teq H).1) ho hp q) K
theorem Go.icmp_eq_f (C : Cx p meth c bytes ml ret) {x y : Int32} {o : Int} (hd : decode bytes pc = .ok (.if_icmp .eq o, 3)) (H : ¬ x = y) (hp : pc + 3 = pc') (K : Go p l e R s m args below meth c Z own n0 Bs En h cells slots pc' Ls S) : Go p l e R s m args below meth c Z own n0 Bs En h cells slots pc Ls (.int y :: .int x :: S) := by
  subst hp; exact Go.st (fun T X t q => XS.icmpNo X C.1 rfl (hb C.2.1 hd) rfl ((feq H).1) q) K
theorem Go.icmp_eq (C : Cx p meth c bytes ml ret) {pc1 pc2 : Nat} {x y : Int32} {o : Int} (hd : decode bytes pc = .ok (.if_icmp .eq o, 3)) (ho : 0 ≤ (pc : Int) + o) (hp : ((pc : Int) + o).toNat = pc1) (hp2 : pc + 3 = pc2) (K1 : x = y → Go p l e R s m args below meth c Z own n0 Bs En h cells slots pc1 Ls S) (K2 : ¬ x = y → Go p l e R s m args below meth c Z own n0 Bs En h cells slots pc2 Ls S) : Go p l e R s m args below meth c Z own n0 Bs En h cells slots pc Ls (.int y :: .int x :: S) := by
  by_cases H : x = y
  · exact Go.icmp_eq_t C hd H ho hp (K1 H)
  · exact Go.icmp_eq_f C hd H hp2 (K2 H)
theorem Go.if_eq_t (C : Cx p meth c bytes ml ret) {x : Int32} {o : Int} (hd : decode bytes pc = .ok (.ifCond .eq o, 3)) (H : x = 0) (ho : 0 ≤ (pc : Int) + o) (hp : ((pc : Int) + o).toNat = pc') (K : Go p l e R s m args below meth c Z own n0 Bs En h cells slots pc' Ls S) : Go p l e R s m args below meth c Z own n0 Bs En h cells slots pc Ls (.int x :: S) := Go.st (fun T X t q => XS.ifYes X C.1 rfl rfl (hb C.2.1 hd) rfl ((if0 _ _).trans ((teq H).1)) ho hp q) K
theorem Go.if_eq_f (C : Cx p meth c bytes ml ret) {x : Int32} {o : Int} (hd : decode bytes pc = .ok (.ifCond .eq o, 3)) (H : ¬ x = 0) (hp : pc + 3 = pc') (K : Go p l e R s m args below meth c Z own n0 Bs En h cells slots pc' Ls S) : Go p l e R s m args below meth c Z own n0 Bs En h cells slots pc Ls (.int x :: S) := by
  subst hp; exact Go.st (fun T X t q => XS.ifNo X C.1 rfl (hb C.2.1 hd) rfl ((if0 _ _).trans ((feq H).1)) q) K
theorem Go.if_eq (C : Cx p meth c bytes ml ret) {pc1 pc2 : Nat} {x : Int32} {o : Int} (hd : decode bytes pc = .ok (.ifCond .eq o, 3)) (ho : 0 ≤ (pc : Int) + o) (hp : ((pc : Int) + o).toNat = pc1) (hp2 : pc + 3 = pc2) (K1 : x = 0 → Go p l e R s m args below meth c Z own n0 Bs En h cells slots pc1 Ls S) (K2 : ¬ x = 0 → Go p l e R s m args below meth c Z own n0 Bs En h cells slots pc2 Ls S) : Go p l e R s m args below meth c Z own n0 Bs En h cells slots pc Ls (.int x :: S) := by
  by_cases H : x = 0
  · exact Go.if_eq_t C hd H ho hp (K1 H)
  · exact Go.if_eq_f C hd H hp2 (K2 H)
theorem Go.icmp_ne_t (C : Cx p meth c bytes ml ret) {x y : Int32} {o : Int} (hd : decode bytes pc = .ok (.if_icmp .ne o, 3)) (H : ¬ x = y) (ho : 0 ≤ (pc : Int) + o) (hp : ((pc : Int) + o).toNat = pc') (K : Go p l e R s m args below meth c Z own n0 Bs En h cells slots pc' Ls S) : Go p l e R s m args below meth c Z own n0 Bs En h cells slots pc Ls (.int y :: .int x :: S) := Go.st (fun T X t q => XS.icmpYes X C.1 rfl rfl (hb C.2.1 hd) rfl ((feq H).2) ho hp q) K
theorem Go.icmp_ne_f (C : Cx p meth c bytes ml ret) {x y : Int32} {o : Int} (hd : decode bytes pc = .ok (.if_icmp .ne o, 3)) (H : x = y) (hp : pc + 3 = pc') (K : Go p l e R s m args below meth c Z own n0 Bs En h cells slots pc' Ls S) : Go p l e R s m args below meth c Z own n0 Bs En h cells slots pc Ls (.int y :: .int x :: S) := by
  subst hp; exact Go.st (fun T X t q => XS.icmpNo X C.1 rfl (hb C.2.1 hd) rfl ((teq H).2) q) K
theorem Go.icmp_ne (C : Cx p meth c bytes ml ret) {pc1 pc2 : Nat} {x y : Int32} {o : Int} (hd : decode bytes pc = .ok (.if_icmp .ne o, 3)) (ho : 0 ≤ (pc : Int) + o) (hp : ((pc : Int) + o).toNat = pc1) (hp2 : pc + 3 = pc2) (K1 : ¬ x = y → Go p l e R s m args below meth c Z own n0 Bs En h cells slots pc1 Ls S) (K2 : x = y → Go p l e R s m args below meth c Z own n0 Bs En h cells slots pc2 Ls S) : Go p l e R s m args below meth c Z own n0 Bs En h cells slots pc Ls (.int y :: .int x :: S) := by
  by_cases H : x = y
  · exact Go.icmp_ne_f C hd H hp2 (K2 H)
  · exact Go.icmp_ne_t C hd H ho hp (K1 H)
theorem Go.if_ne_t (C : Cx p meth c bytes ml ret) {x : Int32} {o : Int} (hd : decode bytes pc = .ok (.ifCond .ne o, 3)) (H : ¬ x = 0) (ho : 0 ≤ (pc : Int) + o) (hp : ((pc : Int) + o).toNat = pc') (K : Go p l e R s m args below meth c Z own n0 Bs En h cells slots pc' Ls S) : Go p l e R s m args below meth c Z own n0 Bs En h cells slots pc Ls (.int x :: S) := Go.st (fun T X t q => XS.ifYes X C.1 rfl rfl (hb C.2.1 hd) rfl ((if0 _ _).trans ((feq H).2)) ho hp q) K
theorem Go.if_ne_f (C : Cx p meth c bytes ml ret) {x : Int32} {o : Int} (hd : decode bytes pc = .ok (.ifCond .ne o, 3)) (H : x = 0) (hp : pc + 3 = pc') (K : Go p l e R s m args below meth c Z own n0 Bs En h cells slots pc' Ls S) : Go p l e R s m args below meth c Z own n0 Bs En h cells slots pc Ls (.int x :: S) := by
  subst hp; exact Go.st (fun T X t q => XS.ifNo X C.1 rfl (hb C.2.1 hd) rfl ((if0 _ _).trans ((teq H).2)) q) K
theorem Go.if_ne (C : Cx p meth c bytes ml ret) {pc1 pc2 : Nat} {x : Int32} {o : Int} (hd : decode bytes pc = .ok (.ifCond .ne o, 3)) (ho : 0 ≤ (pc : Int) + o) (hp : ((pc : Int) + o).toNat = pc1) (hp2 : pc + 3 = pc2) (K1 : ¬ x = 0 → Go p l e R s m args below meth c Z own n0 Bs En h cells slots pc1 Ls S) (K2 : x = 0 → Go p l e R s m args below meth c Z own n0 Bs En h cells slots pc2 Ls S) : Go p l e R s m args below meth c Z own n0 Bs En h cells slots pc Ls (.int x :: S) := by
  by_cases H : x = 0
  · exact Go.if_ne_f C hd H hp2 (K2 H)
  · exact Go.if_ne_t C hd H ho hp (K1 H)
theorem Go.icmp_lt_t (C : Cx p meth c bytes ml ret) {x y : Int32} {o : Int} (hd : decode bytes pc = .ok (.if_icmp .lt o, 3)) (H : x < y) (ho : 0 ≤ (pc : Int) + o) (hp : ((pc : Int) + o).toNat = pc') (K : Go p l e R s m args below meth c Z own n0 Bs En h cells slots pc' Ls S) : Go p l e R s m args below meth c Z own n0 Bs En h cells slots pc Ls (.int y :: .int x :: S) := Go.st (fun T X t q => XS.icmpYes X C.1 rfl rfl (hb C.2.1 hd) rfl ((tlt H).1) ho hp q) K
theorem Go.icmp_lt_f (C : Cx p meth c bytes ml ret) {x y : Int32} {o : Int} (hd : decode bytes pc = .ok (.if_icmp .lt o, 3)) (H : ¬ x < y) (hp : pc + 3 = pc') (K : Go p l e R s m args below meth c Z own n0 Bs En h cells slots pc' Ls S) : Go p l e R s m args below meth c Z own n0 Bs En h cells slots pc Ls (.int y :: .int x :: S) := by
  subst hp; exact Go.st (fun T X t q => XS.icmpNo X C.1 rfl (hb C.2.1 hd) rfl ((flt H).1) q) K
theorem Go.icmp_lt (C : Cx p meth c bytes ml ret) {pc1 pc2 : Nat} {x y : Int32} {o : Int} (hd : decode bytes pc = .ok (.if_icmp .lt o, 3)) (ho : 0 ≤ (pc : Int) + o) (hp : ((pc : Int) + o).toNat = pc1) (hp2 : pc + 3 = pc2) (K1 : x < y → Go p l e R s m args below meth c Z own n0 Bs En h cells slots pc1 Ls S) (K2 : ¬ x < y → Go p l e R s m args below meth c Z own n0 Bs En h cells slots pc2 Ls S) : Go p l e R s m args below meth c Z own n0 Bs En h cells slots pc Ls (.int y :: .int x :: S) := by
  by_cases H : x < y
  · exact Go.icmp_lt_t C hd H ho hp (K1 H)
  · exact Go.icmp_lt_f C hd H hp2 (K2 H)
theorem Go.if_lt_t (C : Cx p meth c bytes ml ret) {x : Int32} {o : Int} (hd : decode bytes pc = .ok (.ifCond .lt o, 3)) (H : x < 0) (ho : 0 ≤ (pc : Int) + o) (hp : ((pc : Int) + o).toNat = pc') (K : Go p l e R s m args below meth c Z own n0 Bs En h cells slots pc' Ls S) : Go p l e R s m args below meth c Z own n0 Bs En h cells slots pc Ls (.int x :: S) := Go.st (fun T X t q => XS.ifYes X C.1 rfl rfl (hb C.2.1 hd) rfl ((if0 _ _).trans ((tlt H).1)) ho hp q) K
theorem Go.if_lt_f (C : Cx p meth c bytes ml ret) {x : Int32} {o : Int} (hd : decode bytes pc = .ok (.ifCond .lt o, 3)) (H : ¬ x < 0) (hp : pc + 3 = pc') (K : Go p l e R s m args below meth c Z own n0 Bs En h cells slots pc' Ls S) : Go p l e R s m args below meth c Z own n0 Bs En h cells slots pc Ls (.int x :: S) := by
  subst hp; exact Go.st (fun T X t q => XS.ifNo X C.1 rfl (hb C.2.1 hd) rfl ((if0 _ _).trans ((flt H).1)) q) K
theorem Go.if_lt (C : Cx p meth c bytes ml ret) {pc1 pc2 : Nat} {x : Int32} {o : Int} (hd : decode bytes pc = .ok (.ifCond .lt o, 3)) (ho : 0 ≤ (pc : Int) + o) (hp : ((pc : Int) + o).toNat = pc1) (hp2 : pc + 3 = pc2) (K1 : x < 0 → Go p l e R s m args below meth c Z own n0 Bs En h cells slots pc1 Ls S) (K2 : ¬ x < 0 → Go p l e R s m args below meth c Z own n0 Bs En h cells slots pc2 Ls S) : Go p l e R s m args below meth c Z own n0 Bs En h cells slots pc Ls (.int x :: S) := by
  by_cases H : x < 0
  · exact Go.if_lt_t C hd H ho hp (K1 H)
  · exact Go.if_lt_f C hd H hp2 (K2 H)
theorem Go.icmp_ge_t (C : Cx p meth c bytes ml ret) {x y : Int32} {o : Int} (hd : decode bytes pc = .ok (.if_icmp .ge o, 3)) (H : ¬ x < y) (ho : 0 ≤ (pc : Int) + o) (hp : ((pc : Int) + o).toNat = pc') (K : Go p l e R s m args below meth c Z own n0 Bs En h cells slots pc' Ls S) : Go p l e R s m args below meth c Z own n0 Bs En h cells slots pc Ls (.int y :: .int x :: S) := Go.st (fun T X t q => XS.icmpYes X C.1 rfl rfl (hb C.2.1 hd) rfl ((flt H).2.1) ho hp q) K
theorem Go.icmp_ge_f (C : Cx p meth c bytes ml ret) {x y : Int32} {o : Int} (hd : decode bytes pc = .ok (.if_icmp .ge o, 3)) (H : x < y) (hp : pc + 3 = pc') (K : Go p l e R s m args below meth c Z own n0 Bs En h cells slots pc' Ls S) : Go p l e R s m args below meth c Z own n0 Bs En h cells slots pc Ls (.int y :: .int x :: S) := by
  subst hp; exact Go.st (fun T X t q => XS.icmpNo X C.1 rfl (hb C.2.1 hd) rfl ((tlt H).2.1) q) K
theorem Go.icmp_ge (C : Cx p meth c bytes ml ret) {pc1 pc2 : Nat} {x y : Int32} {o : Int} (hd : decode bytes pc = .ok (.if_icmp .ge o, 3)) (ho : 0 ≤ (pc : Int) + o) (hp : ((pc : Int) + o).toNat = pc1) (hp2 : pc + 3 = pc2) (K1 : ¬ x < y → Go p l e R s m args below meth c Z own n0 Bs En h cells slots pc1 Ls S) (K2 : x < y → Go p l e R s m args below meth c Z own n0 Bs En h cells slots pc2 Ls S) : Go p l e R s m args below meth c Z own n0 Bs En h cells slots pc Ls (.int y :: .int x :: S) := by
  by_cases H : x < y
  · exact Go.icmp_ge_f C hd H hp2 (K2 H)
  · exact Go.icmp_ge_t C hd H ho hp (K1 H)
theorem Go.if_ge_t (C : Cx p meth c bytes ml ret) {x : Int32} {o : Int} (hd : decode bytes pc = .ok (.ifCond .ge o, 3)) (H : ¬ x < 0) (ho : 0 ≤ (pc : Int) + o) (hp : ((pc : Int) + o).toNat = pc') (K : Go p l e R s m args below meth c Z own n0 Bs En h cells slots pc' Ls S) : Go p l e R s m args below meth c Z own n0 Bs En h cells slots pc Ls (.int x :: S) := Go.st (fun T X t q => XS.ifYes X C.1 rfl rfl (hb C.2.1 hd) rfl ((if0 _ _).trans ((flt H).2.1)) ho hp q) K
theorem Go.if_ge_f (C : Cx p meth c bytes ml ret) {x : Int32} {o : Int} (hd : decode bytes pc = .ok (.ifCond .ge o, 3)) (H : x < 0) (hp : pc + 3 = pc') (K : Go p l e R s m args below meth c Z own n0 Bs En h cells slots pc' Ls S) : Go p l e R s m args below meth c Z own n0 Bs En h cells slots pc Ls (.int x :: S) := by
  subst hp; exact Go.st (fun T X t q => XS.ifNo X C.1 rfl (hb C.2.1 hd) rfl ((if0 _ _).trans ((tlt H).2.1)) q) K
theorem Go.if_ge (C : Cx p meth c bytes ml ret) {pc1 pc2 : Nat} {x : Int32} {o : Int} (hd : decode bytes pc = .ok (.ifCond .ge o, 3)) (ho : 0 ≤ (pc : Int) + o) (hp : ((pc : Int) + o).toNat = pc1) (hp2 : pc + 3 = pc2) (K1 : ¬ x < 0 → Go p l e R s m args below meth c Z own n0 Bs En h cells slots pc1 Ls S) (K2 : x < 0 → Go p l e R s m args below meth c Z own n0 Bs En h cells slots pc2 Ls S) : Go p l e R s m args below meth c Z own n0 Bs En h cells slots pc Ls (.int x :: S) := by
  by_cases H : x < 0
  · exact Go.if_ge_f C hd H hp2 (K2 H)
  · exact Go.if_ge_t C hd H ho hp (K1 H)
theorem Go.icmp_gt_t (C : Cx p meth c bytes ml ret) {x y : Int32} {o : Int} (hd : decode bytes pc = .ok (.if_icmp .gt o, 3)) (H : y < x) (ho : 0 ≤ (pc : Int) + o) (hp : ((pc : Int) + o).toNat = pc') (K : Go p l e R s m args below meth c Z own n0 Bs En h cells slots pc' Ls S) : Go p l e R s m args below meth c Z own n0 Bs En h cells slots pc Ls (.int y :: .int x :: S) := Go.st (fun T X t q => XS.icmpYes X C.1 rfl rfl (hb C.2.1 hd) rfl ((tlt H).2.2.1) ho hp q) K
theorem Go.icmp_gt_f (C : Cx p meth c bytes ml ret) {x y : Int32} {o : Int} (hd : decode bytes pc = .ok (.if_icmp .gt o, 3)) (H : ¬ y < x) (hp : pc + 3 = pc') (K : Go p l e R s m args below meth c Z own n0 Bs En h cells slots pc' Ls S) : Go p l e R s m args below meth c Z own n0 Bs En h cells slots pc Ls (.int y :: .int x :: S) := by
  subst hp; exact Go.st (fun T X t q => XS.icmpNo X C.1 rfl (hb C.2.1 hd) rfl ((flt H).2.2.1) q) K
theorem Go.icmp_gt (C : Cx p meth c bytes ml ret) {pc1 pc2 : Nat} {x y : Int32} {o : Int} (hd : decode bytes pc = .ok (.if_icmp .gt o, 3)) (ho : 0 ≤ (pc : Int) + o) (hp : ((pc : Int) + o).toNat = pc1) (hp2 : pc + 3 = pc2) (K1 : y < x → Go p l e R s m args below meth c Z own n0 Bs En h cells slots pc1 Ls S) (K2 : ¬ y < x → Go p l e R s m args below meth c Z own n0 Bs En h cells slots pc2 Ls S) : Go p l e R s m args below meth c Z own n0 Bs En h cells slots pc Ls (.int y :: .int x :: S) := by
  by_cases H : y < x
  · exact Go.icmp_gt_t C hd H ho hp (K1 H)
  · exact Go.icmp_gt_f C hd H hp2 (K2 H)
theorem Go.if_gt_t (C : Cx p meth c bytes ml ret) {x : Int32} {o : Int} (hd : decode bytes pc = .ok (.ifCond .gt o, 3)) (H : 0 < x) (ho : 0 ≤ (pc : Int) + o) (hp : ((pc : Int) + o).toNat = pc') (K : Go p l e R s m args below meth c Z own n0 Bs En h cells slots pc' Ls S) : Go p l e R s m args below meth c Z own n0 Bs En h cells slots pc Ls (.int x :: S) := Go.st (fun T X t q => XS.ifYes X C.1 rfl rfl (hb C.2.1 hd) rfl ((if0 _ _).trans ((tlt H).2.2.1)) ho hp q) K
theorem Go.if_gt_f (C : Cx p meth c bytes ml ret) {x : Int32} {o : Int} (hd : decode bytes pc = .ok (.ifCond .gt o, 3)) (H : ¬ 0 < x) (hp : pc + 3 = pc') (K : Go p l e R s m args below meth c Z own n0 Bs En h cells slots pc' Ls S) : Go p l e R s m args below meth c Z own n0 Bs En h cells slots pc Ls (.int x :: S) := by
  subst hp; exact Go.st (fun T X t q => XS.ifNo X C.1 rfl (hb C.2.1 hd) rfl ((if0 _ _).trans ((flt H).2.2.1)) q) K
theorem Go.if_gt (C : Cx p meth c bytes ml ret) {pc1 pc2 : Nat} {x : Int32} {o : Int} (hd : decode bytes pc = .ok (.ifCond .gt o, 3)) (ho : 0 ≤ (pc : Int) + o) (hp : ((pc : Int) + o).toNat = pc1) (hp2 : pc + 3 = pc2) (K1 : 0 < x → Go p l e R s m args below meth c Z own n0 Bs En h cells slots pc1 Ls S) (K2 : ¬ 0 < x → Go p l e R s m args below meth c Z own n0 Bs En h cells slots pc2 Ls S) : Go p l e R s m args below meth c Z own n0 Bs En h cells slots pc Ls (.int x :: S) := by
  by_cases H : 0 < x
  · exact Go.if_gt_t C hd H ho hp (K1 H)
  · exact Go.if_gt_f C hd H hp2 (K2 H)
theorem Go.icmp_le_t (C : Cx p meth c bytes ml ret) {x y : Int32} {o : Int} (hd : decode bytes pc = .ok (.if_icmp .le o, 3)) (H : ¬ y < x) (ho : 0 ≤ (pc : Int) + o) (hp : ((pc : Int) + o).toNat = pc') (K : Go p l e R s m args below meth c Z own n0 Bs En h cells slots pc' Ls S) : Go p l e R s m args below meth c Z own n0 Bs En h cells slots pc Ls (.int y :: .int x :: S) := Go.st (fun T X t q => XS.icmpYes X C.1 rfl rfl (hb C.2.1 hd) rfl ((flt H).2.2.2) ho hp q) K
theorem Go.icmp_le_f (C : Cx p meth c bytes ml ret) {x y : Int32} {o : Int} (hd : decode bytes pc = .ok (.if_icmp .le o, 3)) (H : y < x) (hp : pc + 3 = pc') (K : Go p l e R s m args below meth c Z own n0 Bs En h cells slots pc' Ls S) : Go p l e R s m args below meth c Z own n0 Bs En h cells slots pc Ls (.int y :: .int x :: S) := by
  subst hp; exact Go.st (fun T X t q => XS.icmpNo X C.1 rfl (hb C.2.1 hd) rfl ((tlt H).2.2.2) q) K
theorem Go.icmp_le (C : Cx p meth c bytes ml ret) {pc1 pc2 : Nat} {x y : Int32} {o : Int} (hd : decode bytes pc = .ok (.if_icmp .le o, 3)) (ho : 0 ≤ (pc : Int) + o) (hp : ((pc : Int) + o).toNat = pc1) (hp2 : pc + 3 = pc2) (K1 : ¬ y < x → Go p l e R s m args below meth c Z own n0 Bs En h cells slots pc1 Ls S) (K2 : y < x → Go p l e R s m args below meth c Z own n0 Bs En h cells slots pc2 Ls S) : Go p l e R s m args below meth c Z own n0 Bs En h cells slots pc Ls (.int y :: .int x :: S) := by
  by_cases H : y < x
  · exact Go.icmp_le_f C hd H hp2 (K2 H)
  · exact Go.icmp_le_t C hd H ho hp (K1 H)
theorem Go.if_le_t (C : Cx p meth c bytes ml ret) {x : Int32} {o : Int} (hd : decode bytes pc = .ok (.ifCond .le o, 3)) (H : ¬ 0 < x) (ho : 0 ≤ (pc : Int) + o) (hp : ((pc : Int) + o).toNat = pc') (K : Go p l e R s m args below meth c Z own n0 Bs En h cells slots pc' Ls S) : Go p l e R s m args below meth c Z own n0 Bs En h cells slots pc Ls (.int x :: S) := Go.st (fun T X t q => XS.ifYes X C.1 rfl rfl (hb C.2.1 hd) rfl ((if0 _ _).trans ((flt H).2.2.2)) ho hp q) K
theorem Go.if_le_f (C : Cx p meth c bytes ml ret) {x : Int32} {o : Int} (hd : decode bytes pc = .ok (.ifCond .le o, 3)) (H : 0 < x) (hp : pc + 3 = pc') (K : Go p l e R s m args below meth c Z own n0 Bs En h cells slots pc' Ls S) : Go p l e R s m args below meth c Z own n0 Bs En h cells slots pc Ls (.int x :: S) := by
  subst hp; exact Go.st (fun T X t q => XS.ifNo X C.1 rfl (hb C.2.1 hd) rfl ((if0 _ _).trans ((tlt H).2.2.2)) q) K
theorem Go.if_le (C : Cx p meth c bytes ml ret) {pc1 pc2 : Nat} {x : Int32} {o : Int} (hd : decode bytes pc = .ok (.ifCond .le o, 3)) (ho : 0 ≤ (pc : Int) + o) (hp : ((pc : Int) + o).toNat = pc1) (hp2 : pc + 3 = pc2) (K1 : ¬ 0 < x → Go p l e R s m args below meth c Z own n0 Bs En h cells slots pc1 Ls S) (K2 : 0 < x → Go p l e R s m args below meth c Z own n0 Bs En h cells slots pc2 Ls S) : Go p l e R s m args below meth c Z own n0 Bs En h cells slots pc Ls (.int x :: S) := by
  by_cases H : 0 < x
  · exact Go.if_le_f C hd H hp2 (K2 H)
  · exact Go.if_le_t C hd H ho hp (K1 H)
theorem Go.ifnull_t (C : Cx p meth c bytes ml ret) {o : Int} (hd : decode bytes pc = .ok (.ifnull o, 3)) (ho : 0 ≤ (pc : Int) + o) (hp : ((pc : Int) + o).toNat = pc') (K : Go p l e R s m args below meth c Z own n0 Bs En h cells slots pc' Ls S) : Go p l e R s m args below meth c Z own n0 Bs En h cells slots pc Ls (.null :: S) := Go.st (fun T X t q => XS.ifnullYes X C.1 rfl rfl (hb C.2.1 hd) rfl ho hp q) K
theorem Go.ifnull_f (C : Cx p meth c bytes ml ret) {o : Int} {b : Addr} (hd : decode bytes pc = .ok (.ifnull o, 3))  (hp : pc + 3 = pc') (K : Go p l e R s m args below meth c Z own n0 Bs En h cells slots pc' Ls (S)) : Go p l e R s m args below meth c Z own n0 Bs En h cells slots pc Ls (.ref b :: S) := by
  subst hp; exact Go.st (fun T X t q => XS.ifnullNo X C.1 rfl (hb C.2.1 hd) rfl q) K
theorem Go.ifnonnull_t (C : Cx p meth c bytes ml ret) {o : Int} {b : Addr} (hd : decode bytes pc = .ok (.ifnonnull o, 3)) (ho : 0 ≤ (pc : Int) + o) (hp : ((pc : Int) + o).toNat = pc') (K : Go p l e R s m args below meth c Z own n0 Bs En h cells slots pc' Ls S) : Go p l e R s m args below meth c Z own n0 Bs En h cells slots pc Ls (.ref b :: S) := Go.st (fun T X t q => XS.ifnonnullYes X C.1 rfl rfl (hb C.2.1 hd) rfl ho hp q) K
theorem Go.ifnonnull_f (C : Cx p meth c bytes ml ret) {o : Int} (hd : decode bytes pc = .ok (.ifnonnull o, 3))  (hp : pc + 3 = pc') (K : Go p l e R s m args below meth c Z own n0 Bs En h cells slots pc' Ls (S)) : Go p l e R s m args below meth c Z own n0 Bs En h cells slots pc Ls (.null :: S) := by
  subst hp; exact Go.st (fun T X t q => XS.ifnonnullNo X C.1 rfl (hb C.2.1 hd) rfl q) K
theorem Go.acmp_eq_t (C : Cx p meth c bytes ml ret) {o : Int} {x y : Value} (hd : decode bytes pc = .ok (.if_acmp .eq o, 3)) (h1 : x.isRef = true) (h2 : y.isRef = true) (H : x = y) (ho : 0 ≤ (pc : Int) + o) (hp : ((pc : Int) + o).toNat = pc') (K : Go p l e R s m args below meth c Z own n0 Bs En h cells slots pc' Ls S) : Go p l e R s m args below meth c Z own n0 Bs En h cells slots pc Ls (y :: x :: S) := fun vm0 T locs q1 q2 q3 X q4 q5 => by
  obtain ⟨s₂, o', L, k1, k2⟩ := K vm0 T locs q1 q2 q3 X q4 q5
  exact ⟨s₂, o', L, acmp X C.1 rfl h1 h2 rfl (hb C.2.1 hd) rfl (decide_eq_true H) ho (by rw [← hp]; rfl) k1, k2⟩
theorem Go.acmp_eq_f (C : Cx p meth c bytes ml ret) {o : Int} {x y : Value} (hd : decode bytes pc = .ok (.if_acmp .eq o, 3)) (h1 : x.isRef = true) (h2 : y.isRef = true) (H : ¬ x = y) (ho : 0 ≤ (pc : Int) + o) (hp : pc + 3 = pc') (K : Go p l e R s m args below meth c Z own n0 Bs En h cells slots pc' Ls S) : Go p l e R s m args below meth c Z own n0 Bs En h cells slots pc Ls (y :: x :: S) := fun vm0 T locs q1 q2 q3 X q4 q5 => by
  obtain ⟨s₂, o', L, k1, k2⟩ := K vm0 T locs q1 q2 q3 X q4 q5
  exact ⟨s₂, o', L, acmp X C.1 rfl h1 h2 rfl (hb C.2.1 hd) rfl (decide_eq_false H) ho (by rw [← hp]; rfl) k1, k2⟩
theorem Go.acmp_ne_t (C : Cx p meth c bytes ml ret) {o : Int} {x y : Value} (hd : decode bytes pc = .ok (.if_acmp .ne o, 3)) (h1 : x.isRef = true) (h2 : y.isRef = true) (H : ¬ x = y) (ho : 0 ≤ (pc : Int) + o) (hp : ((pc : Int) + o).toNat = pc') (K : Go p l e R s m args below meth c Z own n0 Bs En h cells slots pc' Ls S) : Go p l e R s m args below meth c Z own n0 Bs En h cells slots pc Ls (y :: x :: S) := fun vm0 T locs q1 q2 q3 X q4 q5 => by
  obtain ⟨s₂, o', L, k1, k2⟩ := K vm0 T locs q1 q2 q3 X q4 q5
  exact ⟨s₂, o', L, acmp X C.1 rfl h1 h2 rfl (hb C.2.1 hd) rfl (decide_eq_false H) ho (by rw [← hp]; rfl) k1, k2⟩
theorem Go.acmp_ne_f (C : Cx p meth c bytes ml ret) {o : Int} {x y : Value} (hd : decode bytes pc = .ok (.if_acmp .ne o, 3)) (h1 : x.isRef = true) (h2 : y.isRef = true) (H : x = y) (ho : 0 ≤ (pc : Int) + o) (hp : pc + 3 = pc') (K : Go p l e R s m args below meth c Z own n0 Bs En h cells slots pc' Ls S) : Go p l e R s m args below meth c Z own n0 Bs En h cells slots pc Ls (y :: x :: S) := fun vm0 T locs q1 q2 q3 X q4 q5 => by
  obtain ⟨s₂, o', L, k1, k2⟩ := K vm0 T locs q1 q2 q3 X q4 q5
  exact ⟨s₂, o', L, acmp X C.1 rfl h1 h2 rfl (hb C.2.1 hd) rfl (decide_eq_true H) ho (by rw [← hp]; rfl) k1, k2⟩
theorem Go.same {Ls' : Array Slot} {S' : List Value} (f : ∀ (vm0 : Vm) (T : State) (locs : List Loc), Z.Warmed39 vm0 → vm0.findClass own = some m.cls → Stand p l e R (s.setVm vm0) m args below meth c T locs cells slots → T.heap = h → ∃ T', Stand p l e R (s.setVm vm0) m args below meth c T' locs cells slots ∧ T'.heap = h ∧ ∀ target, Steps p.tables e below (T'.setTop (mkF m pc' Ls' S')) target → Steps p.tables e below (T.setTop (mkF m pc Ls S)) target)
    (K : Go p l e R s m args below meth c Z own n0 Bs En h cells slots pc' Ls' S') : Go p l e R s m args below meth c Z own n0 Bs En h cells slots pc Ls S := fun vm0 T locs q1 q2 q3 X q4 q5 => by
  obtain ⟨T', X', e', st⟩ := f vm0 T locs q1 q2 X q5
  obtain ⟨s₂, o, L, h1, h2⟩ := K vm0 T' locs q1 q2 q3 X' q4 e'
  exact ⟨s₂, o, L, st _ h1, h2⟩
theorem Go.ldcInt (C : Cx p meth c bytes ml ret) {i : Nat} {v : Int32} (hd : decode bytes pc = .ok (.ldc i, 2)) (w : (Cond.constant own i v).before a0 Z = true) (hp : pc + 2 = pc') (K : Go p l e R s m args below meth c Z own n0 Bs En h cells slots pc' Ls (.int v :: S)) : Go p l e R s m args below meth c Z own n0 Bs En h cells slots pc Ls (S) := by
  subst hp; exact Go.same (fun vm0 T locs hZ hown X eT => by exact ⟨T, X, eT, X.ldcInt C.1 hown (mvT (s := s.setVm vm0) hZ w) (g := mkF m pc Ls (S)) rfl (hb C.2.1 hd)⟩) K
theorem Go.ldc2Long (C : Cx p meth c bytes ml ret) {i : Nat} {v : Int64} (hd : decode bytes pc = .ok (.ldc2_w i, 3)) (w : (Cond.constantLong own i v).before a0 Z = true) (hp : pc + 3 = pc') (K : Go p l e R s m args below meth c Z own n0 Bs En h cells slots pc' Ls (.long v :: S)) : Go p l e R s m args below meth c Z own n0 Bs En h cells slots pc Ls (S) := by
  subst hp; exact Go.same (fun vm0 T locs hZ hown X eT => by exact ⟨T, X, eT, X.ldc2Long C.1 hown (mvT (s := s.setVm vm0) hZ w) (g := mkF m pc Ls (S)) rfl (hb C.2.1 hd)⟩) K
theorem Go.ldc2Double (C : Cx p meth c bytes ml ret) {i : Nat} {v : UInt64} (hd : decode bytes pc = .ok (.ldc2_w i, 3)) (w : (Cond.constantDouble own i v).before a0 Z = true) (hp : pc + 3 = pc') (K : Go p l e R s m args below meth c Z own n0 Bs En h cells slots pc' Ls (.double v :: S)) : Go p l e R s m args below meth c Z own n0 Bs En h cells slots pc Ls (S) := by
  subst hp; exact Go.same (fun vm0 T locs hZ hown X eT => by exact ⟨T, X, eT, X.ldc2DoubleC C.1 hown (mvT (s := s.setVm vm0) hZ w) (g := mkF m pc Ls (S)) rfl (hb C.2.1 hd)⟩) K
theorem Go.arraylength (C : Cx p meth c bytes ml ret) {a : Addr} {cl : Cell} {ty : FieldType} {z : Int32} (hd : decode bytes pc = .ok (.arraylength, 1)) (A : Arr Z h a cl ty) (hz : cl.slots.size.toInt32 = z) (hp : pc + 1 = pc') (K : Go p l e R s m args below meth c Z own n0 Bs En h cells slots pc' Ls (.int z :: S)) : Go p l e R s m args below meth c Z own n0 Bs En h cells slots pc Ls (.ref a :: S) := by
  subst hp; exact Go.same (fun vm0 T locs hZ hown X eT => by subst hz; exact ⟨T, X, eT, fun t q => X.arraylength C.1 (by rw [eT]; exact A.1) (State.isArrayOf_alike (T := s.setVm vm0) hZ.alike A.2.1) (g := mkF m pc Ls (.ref a :: S)) rfl rfl (hb C.2.1 hd) t q⟩) K
theorem Go.iaload (C : Cx p meth c bytes ml ret) {a : Addr} {cl : Cell} {j : Int32} {v : Value} (hd : decode bytes pc = .ok (.iaload, 1)) (A : Arr Z h a cl .int) (hin : ¬ (j < 0 ∨ cl.slots.size ≤ j.toNatClampNeg)) (hv : cl.slots[j.toNatClampNeg]? = some v) (hp : pc + 1 = pc') (K : Go p l e R s m args below meth c Z own n0 Bs En h cells slots pc' Ls (v :: S)) : Go p l e R s m args below meth c Z own n0 Bs En h cells slots pc Ls (.int j :: .ref a :: S) := by
  subst hp; exact Go.same (fun vm0 T locs hZ hown X eT => by exact ⟨T, X, eT, fun t q => X.iaload C.1 (by rw [eT]; exact A.1) (State.isArrayOf_alike (T := s.setVm vm0) hZ.alike A.2.1) A.2.2 hin hv (g := mkF m pc Ls (.int j :: .ref a :: S)) rfl rfl (hb C.2.1 hd) t q⟩) K
theorem Go.laload (C : Cx p meth c bytes ml ret) {a : Addr} {cl : Cell} {j : Int32} {v : Value} (hd : decode bytes pc = .ok (.laload, 1)) (A : Arr Z h a cl .long) (hin : ¬ (j < 0 ∨ cl.slots.size ≤ j.toNatClampNeg)) (hv : cl.slots[j.toNatClampNeg]? = some v) (hp : pc + 1 = pc') (K : Go p l e R s m args below meth c Z own n0 Bs En h cells slots pc' Ls (v :: S)) : Go p l e R s m args below meth c Z own n0 Bs En h cells slots pc Ls (.int j :: .ref a :: S) := by
  subst hp; exact Go.same (fun vm0 T locs hZ hown X eT => by exact ⟨T, X, eT, fun t q => X.laload C.1 (by rw [eT]; exact A.1) (State.isArrayOf_alike (T := s.setVm vm0) hZ.alike A.2.1) A.2.2 hin hv (g := mkF m pc Ls (.int j :: .ref a :: S)) rfl rfl (hb C.2.1 hd) t q⟩) K
theorem Go.caload (C : Cx p meth c bytes ml ret) {a : Addr} {cl : Cell} {j : Int32} {v : Value} (hd : decode bytes pc = .ok (.caload, 1)) (A : Arr Z h a cl .char) (hin : ¬ (j < 0 ∨ cl.slots.size ≤ j.toNatClampNeg)) (hv : cl.slots[j.toNatClampNeg]? = some v) (hp : pc + 1 = pc') (K : Go p l e R s m args below meth c Z own n0 Bs En h cells slots pc' Ls (v :: S)) : Go p l e R s m args below meth c Z own n0 Bs En h cells slots pc Ls (.int j :: .ref a :: S) := by
  subst hp; exact Go.same (fun vm0 T locs hZ hown X eT => by exact ⟨T, X, eT, fun t q => X.caload C.1 (by rw [eT]; exact A.1) (State.isArrayOf_alike (T := s.setVm vm0) hZ.alike A.2.1) A.2.2 hin hv (g := mkF m pc Ls (.int j :: .ref a :: S)) rfl rfl (hb C.2.1 hd) t q⟩) K
theorem Go.baload (C : Cx p meth c bytes ml ret) {a : Addr} {cl : Cell} {j : Int32} {v : Value} (hd : decode bytes pc = .ok (.baload, 1)) (A : Arr Z h a cl .byte) (hin : ¬ (j < 0 ∨ cl.slots.size ≤ j.toNatClampNeg)) (hv : cl.slots[j.toNatClampNeg]? = some v) (hp : pc + 1 = pc') (K : Go p l e R s m args below meth c Z own n0 Bs En h cells slots pc' Ls (v :: S)) : Go p l e R s m args below meth c Z own n0 Bs En h cells slots pc Ls (.int j :: .ref a :: S) := by
  subst hp; exact Go.same (fun vm0 T locs hZ hown X eT => by exact ⟨T, X, eT, fun t q => X.baloadBytes C.1 (by rw [eT]; exact A.1) (State.isArrayOf_alike (T := s.setVm vm0) hZ.alike A.2.1) A.2.2 hin hv (g := mkF m pc Ls (.int j :: .ref a :: S)) rfl rfl (hb C.2.1 hd) t q⟩) K
theorem Go.daload (C : Cx p meth c bytes ml ret) {a : Addr} {cl : Cell} {j : Int32} {v : Value} (hd : decode bytes pc = .ok (.daload, 1)) (A : Arr Z h a cl .double) (hin : ¬ (j < 0 ∨ cl.slots.size ≤ j.toNatClampNeg)) (hv : cl.slots[j.toNatClampNeg]? = some v) (hp : pc + 1 = pc') (K : Go p l e R s m args below meth c Z own n0 Bs En h cells slots pc' Ls (v :: S)) : Go p l e R s m args below meth c Z own n0 Bs En h cells slots pc Ls (.int j :: .ref a :: S) := by
  subst hp; exact Go.same (fun vm0 T locs hZ hown X eT => by exact ⟨T, X, eT, fun t q => X.daload C.1 (by rw [eT]; exact A.1) (State.isArrayOf_alike (T := s.setVm vm0) hZ.alike A.2.1) A.2.2 hin hv (g := mkF m pc Ls (.int j :: .ref a :: S)) rfl rfl (hb C.2.1 hd) t q⟩) K
theorem Go.aaload (C : Cx p meth c bytes ml ret) {a : Addr} {cl : Cell} {j : Int32} {v : Value} {ty : FieldType} (hd : decode bytes pc = .ok (.aaload, 1)) (A : Arr Z h a cl ty) (hty : ty.isReference = true) (hin : ¬ (j < 0 ∨ cl.slots.size ≤ j.toNatClampNeg)) (hv : cl.slots[j.toNatClampNeg]? = some v) (hp : pc + 1 = pc') (K : Go p l e R s m args below meth c Z own n0 Bs En h cells slots pc' Ls (v :: S)) : Go p l e R s m args below meth c Z own n0 Bs En h cells slots pc Ls (.int j :: .ref a :: S) := by
  subst hp; exact Go.same (fun vm0 T locs hZ hown X eT => by exact ⟨T, X, eT, fun t q => X.aaload C.1 (by rw [eT]; exact A.1) (State.isArrayOf_alike (T := s.setVm vm0) hZ.alike A.2.1) hty A.2.2 hin hv (g := mkF m pc Ls (.int j :: .ref a :: S)) rfl rfl (hb C.2.1 hd) t q⟩) K
theorem Go.castNull (C : Cx p meth c bytes ml ret) {i : Nat} (hd : decode bytes pc = .ok (.checkcast i, 3))  (hp : pc + 3 = pc') (K : Go p l e R s m args below meth c Z own n0 Bs En h cells slots pc' Ls (.null :: S)) : Go p l e R s m args below meth c Z own n0 Bs En h cells slots pc Ls (.null :: S) := by
  subst hp; exact Go.same (fun vm0 T locs hZ hown X eT => by exact ⟨T, X, eT, X.checkcastNull C.1 (g := mkF m pc Ls (.null :: S)) rfl rfl (hb C.2.1 hd)⟩) K
theorem Go.instNull (C : Cx p meth c bytes ml ret) {i : Nat} (hd : decode bytes pc = .ok (.instanceof i, 3))  (hp : pc + 3 = pc') (K : Go p l e R s m args below meth c Z own n0 Bs En h cells slots pc' Ls (.int 0 :: S)) : Go p l e R s m args below meth c Z own n0 Bs En h cells slots pc Ls (.null :: S) := by
  subst hp; exact Go.same (fun vm0 T locs hZ hown X eT => by exact ⟨T, X, eT, X.instanceofNull C.1 (g := mkF m pc Ls (.null :: S)) rfl rfl (hb C.2.1 hd)⟩) K
theorem Go.getF (C : Cx p meth c bytes ml ret) {i : Nat} {a : Addr} {R0 O n d : String} {v : Value} (hd : decode bytes pc = .ok (.getfield i, 3)) (w : (Cond.fieldLink own i R0 n d).before a0 Z = true) (via : Via Z R0 O n d) (F : Fld Z h a O n d v) (hp : pc + 3 = pc') (K : Go p l e R s m args below meth c Z own n0 Bs En h cells slots pc' Ls (v :: S)) : Go p l e R s m args below meth c Z own n0 Bs En h cells slots pc Ls (.ref a :: S) := by
  subst hp; exact Go.same (fun vm0 T locs hZ hown X eT => by exact getF (host := "") X C.1 hZ hown (Or.inl w) via eT F (g := mkF m pc Ls (.ref a :: S)) rfl rfl (hb C.2.1 hd)) K
theorem Go.getS (C : Cx p meth c bytes ml ret) {i : Nat} {R0 O n d : String} {v : Value} (hd : decode bytes pc = .ok (.getstatic i, 3)) (w : (Cond.fieldLink own i R0 n d).before a0 Z = true) (via : Via Z R0 O n d) (F : Sta Z h O n d v) (hp : pc + 3 = pc') (K : Go p l e R s m args below meth c Z own n0 Bs En h cells slots pc' Ls (v :: S)) : Go p l e R s m args below meth c Z own n0 Bs En h cells slots pc Ls (S) := by
  subst hp; exact Go.same (fun vm0 T locs hZ hown X eT => by exact getS2 (host := "") X C.1 hZ hown (Or.inl w) via eT F (g := mkF m pc Ls (S)) rfl (hb C.2.1 hd)) K
theorem Go.castY (C : Cx p meth c bytes ml ret) {i : Nat} {a : Addr} {K0 : String} (hd : decode bytes pc = .ok (.checkcast i, 3)) (w : (Cond.classLink own i K0).before a0 Z = true) (F : Ins Z h a K0 true) (hp : pc + 3 = pc') (K : Go p l e R s m args below meth c Z own n0 Bs En h cells slots pc' Ls (.ref a :: S)) : Go p l e R s m args below meth c Z own n0 Bs En h cells slots pc Ls (.ref a :: S) := by
  subst hp; exact Go.same (fun vm0 T locs hZ hown X eT => by exact castY X C.1 hZ hown w eT F (g := mkF m pc Ls (.ref a :: S)) rfl rfl (hb C.2.1 hd)) K
theorem Go.instY (C : Cx p meth c bytes ml ret) {i : Nat} {a : Addr} {K0 : String} (hd : decode bytes pc = .ok (.instanceof i, 3)) (w : (Cond.classLink own i K0).before a0 Z = true) (F : Ins Z h a K0 true) (hp : pc + 3 = pc') (K : Go p l e R s m args below meth c Z own n0 Bs En h cells slots pc' Ls (.int 1 :: S)) : Go p l e R s m args below meth c Z own n0 Bs En h cells slots pc Ls (.ref a :: S) := by
  subst hp; exact Go.same (fun vm0 T locs hZ hown X eT => by exact instY X C.1 hZ hown w eT F (g := mkF m pc Ls (.ref a :: S)) rfl rfl (hb C.2.1 hd)) K
end Rules
end Jvm.Own
namespace Jvm.Own
open Jvm Jvm.ClassFile Sem Op Lib Jvm.Free Jvm.Stand Jvm.LawKit Jvm.RoadKit Bundle
section Heaps
variable {p : Program} {l : Launch} {e : Env} {R : Room} {s : State} {m : MethodId} {args : Array Value} {below : List Frame} {meth : Method} {c : Code} {Z : State} {own : String} {n0 : Nat} {Bs : Vm → Heap → Prop} {En : Outcome → State → List Loc → Prop} {h : Heap} {cells slots pc pc' : Nat} {Ls : Array Slot} {S : List Value} {bytes : ByteArray} {ml : Nat} {ret : Option FieldType} {a0 : Array Value}
/-- Bs goes along with a heap that only grew -/
def BsE (Bs : Vm → Heap → Prop) : Prop := ∀ vm h h', Ext h h' → Bs vm h → Bs vm h'
/-- the base of a walk that interns nothing -/
def Bn (s : State) : Vm → Heap → Prop := fun vm _ => vm = s.vm
theorem bnE : ∀ vm h', Ext h h' → h.size < h'.size → Bn s vm h → Bn s vm h' := fun _ _ _ _ q => q
theorem Go.newO (C : Cx p meth c bytes ml ret) {Bs' : Vm → Heap → Prop} (hE : ∀ vm h', Ext h h' → h.size < h'.size → Bs vm h → Bs' vm h') {i n : Nat} {C0 : String} (hd : decode bytes pc = .ok (.new i, 3)) (w1 : (Cond.classLink own i C0).before a0 Z = true) (w2 : (Cond.instantiable C0 n).before a0 Z = true) (w3 : (Cond.initialized C0).before a0 Z = true) (hc : cells + 1 ≤ R.cells) (hl : slots + n ≤ R.slots) (hp : pc + 3 = pc')
    (K : ∀ h', Ext h h' → Exa Z h' h.size C0 → (∀ {O nm d : String} {ty : FieldType}, Laid Z a0 C0 O nm d → parseFieldDescriptor d = some ty → Fld Z h' h.size O nm d (defaultValue ty)) → Unt h' h.size → Go p l e R s m args below meth c Z own n0 Bs' En h' (cells + 1) (slots + n) pc' Ls (.ref h.size :: S)) :
    Go p l e R s m args below meth c Z own n0 Bs En h cells slots pc Ls S := fun vm0 T locs hZ hown hB X hF eT => by
  subst hp
  obtain ⟨T', h', X', e', E, A, D, N, st⟩ := Jvm.RoadKit.newO X C.1 hZ hown w1 w2 w3 eT (g := mkF m pc Ls S) rfl (hb C.2.1 hd) hc hl
  obtain ⟨s₂, o, L, k1, k2⟩ := K h' E A D N vm0 T' locs hZ hown (hE _ _ E A.lt hB) X' hF e'
  exact ⟨s₂, o, L, st _ k1, k2⟩
theorem Go.newP (C : Cx p meth c bytes ml ret) {Bs' : Vm → Heap → Prop} (hE : ∀ vm h', Ext h h' → h.size < h'.size → Bs vm h → Bs' vm h') {aty : ArrayType} {n : Int32} (hd : decode bytes pc = .ok (.newarray aty, 2)) (w : (Cond.arrayClass (newarray.typeOf aty)).before a0 Z = true) (hn : ¬ n < 0) {cap : Nat} (hcap : n.toNatClampNeg ≤ cap) (hb8 : cap * 8 ≤ 536870912) (hc : cells + 1 ≤ R.cells) (hl : slots + cap ≤ R.slots) (hp : pc + 2 = pc')
    (K : ∀ h' cA, Ext h h' → Arr Z h' h.size (newA cA (newarray.typeOf aty) n) (newarray.typeOf aty) → Go p l e R s m args below meth c Z own n0 Bs' En h' (cells + 1) (slots + cap) pc' Ls (.ref h.size :: S)) :
    Go p l e R s m args below meth c Z own n0 Bs En h cells slots pc Ls (.int n :: S) := fun vm0 T locs hZ hown hB X hF eT => by
  subst hp
  obtain ⟨T', h', cA, X', e', E, A, st⟩ := Jvm.RoadKit.newP X C.1 hZ w eT (g := mkF m pc Ls (.int n :: S)) rfl (hb C.2.1 hd) rfl hn hcap hb8 hc hl
  obtain ⟨s₂, o, L, k1, k2⟩ := K h' cA E A vm0 T' locs hZ hown (hE _ _ E A.lt hB) X' hF e'
  exact ⟨s₂, o, L, st _ k1, k2⟩
theorem Go.castore (C : Cx p meth c bytes ml ret) {a : Addr} {cl : Cell} {j x : Int32} (hd : decode bytes pc = .ok (.castore, 1)) (A : Arr Z h a cl .char) (hj : ¬ (j < 0 ∨ cl.slots.size ≤ j.toNatClampNeg)) (hn : n0 ≤ a) (hB : ∀ vm h', Wr h h' a j.toNatClampNeg (.int (nar .char x)) → Bs vm h → Bs vm h') (hp : pc + 1 = pc')
    (K : ∀ h', Wr h h' a j.toNatClampNeg (.int (nar .char x)) → Go p l e R s m args below meth c Z own n0 Bs En h' cells slots pc' Ls S) :
    Go p l e R s m args below meth c Z own n0 Bs En h cells slots pc Ls (.int x :: .int j :: .ref a :: S) := fun vm0 T locs hZ hown hBs X hF eT => by
  subst hp
  obtain ⟨T', h', X', e', W, st⟩ := stC X C.1 hZ eT A hj (g := mkF m pc Ls (.int x :: .int j :: .ref a :: S)) rfl rfl (hb C.2.1 hd)
  obtain ⟨s₂, o, L, k1, k2⟩ := K h' W vm0 T' _ hZ hown (hB _ _ W hBs) X' (Fr.snoc X' hF hn) e'
  exact ⟨s₂, o, L, st _ k1, k2⟩
theorem Go.bastore (C : Cx p meth c bytes ml ret) {a : Addr} {cl : Cell} {j x : Int32} (hd : decode bytes pc = .ok (.bastore, 1)) (A : Arr Z h a cl .byte) (hj : ¬ (j < 0 ∨ cl.slots.size ≤ j.toNatClampNeg)) (hn : n0 ≤ a) (hB : ∀ vm h', Wr h h' a j.toNatClampNeg (.int (nar .byte x)) → Bs vm h → Bs vm h') (hp : pc + 1 = pc')
    (K : ∀ h', Wr h h' a j.toNatClampNeg (.int (nar .byte x)) → Go p l e R s m args below meth c Z own n0 Bs En h' cells slots pc' Ls S) :
    Go p l e R s m args below meth c Z own n0 Bs En h cells slots pc Ls (.int x :: .int j :: .ref a :: S) := fun vm0 T locs hZ hown hBs X hF eT => by
  subst hp
  obtain ⟨T', h', X', e', W, st⟩ := stB X C.1 hZ eT A hj (g := mkF m pc Ls (.int x :: .int j :: .ref a :: S)) rfl rfl (hb C.2.1 hd)
  obtain ⟨s₂, o, L, k1, k2⟩ := K h' W vm0 T' _ hZ hown (hB _ _ W hBs) X' (Fr.snoc X' hF hn) e'
  exact ⟨s₂, o, L, st _ k1, k2⟩
theorem Go.putF (C : Cx p meth c bytes ml ret) {i kk : Nat} {R0 O n d C0 : String} {ty : FieldType} {a : Addr} {v old : Value} (hd : decode bytes pc = .ok (.putfield i, 3)) (w : (Cond.fieldLink own i R0 n d).before a0 Z = true) (via : Via Z R0 O n d) (F : Fld Z h a O n d old) (E : Exa Z h a C0)
    (L : (Cond.lays C0 O n d).before a0 Z = true ∨ ((Cond.laysFinal C0 O n d).before a0 Z = true ∧ own = O ∧ meth.name = "<init>")) (wi : (Cond.instantiable C0 kk).before a0 Z = true) (hty : parseFieldDescriptor d = some ty) (hnv : narrow ty v = v) (hf : fits ty v = true) (hn : n0 ≤ a) (hB : ∀ vm h', Wr h h' a (Jvm.RoadKit.slotOf Z O n d) v → Bs vm h → Bs vm h') (hp : pc + 3 = pc')
    (K : ∀ h', Wr h h' a (Jvm.RoadKit.slotOf Z O n d) v → Go p l e R s m args below meth c Z own n0 Bs En h' cells slots pc' Ls S) :
    Go p l e R s m args below meth c Z own n0 Bs En h cells slots pc Ls (v :: .ref a :: S) := fun vm0 T locs hZ hown hBs X hF eT => by
  subst hp
  obtain ⟨T', h', X', e', W, st⟩ := Jvm.RoadKit.putF (host := "") X C.1 hZ hown (Or.inl w) via eT F E L wi hty hnv hf (g := mkF m pc Ls (v :: .ref a :: S)) rfl rfl (hb C.2.1 hd)
  obtain ⟨s₂, o, L, k1, k2⟩ := K h' W vm0 T' _ hZ hown (hB _ _ W hBs) X' (Fr.snoc X' hF hn) e'
  exact ⟨s₂, o, L, st _ k1, k2⟩
theorem Go.initO (C : Cx p meth c bytes ml ret) {i : Nat} {a : Addr} (hd : decode bytes pc = .ok (.invokespecial i, 3)) (w1 : (Cond.methodLink own i Lib.objectInit).before a0 Z = true) (w2 : (Cond.instanceMethod Lib.objectInit).before a0 Z = true) (w3 : (Cond.code Lib.objectInit ⟨#[0xb1]⟩ 1 none).before a0 Z = true)
    (hsz : Ls.size = ml) (hfr : 1 ≤ R.frames) (hlo : (S.map fun v => v.category).sum + 12 ≤ R.locals) (hp : pc + 3 = pc') (K : Go p l e R s m args below meth c Z own n0 Bs En h cells slots pc' Ls S) :
    Go p l e R s m args below meth c Z own n0 Bs En h cells slots pc Ls (.ref a :: S) := by
  subst hp
  exact Go.same (fun vm0 T locs hZ hown X eT => Jvm.RoadKit.initO X C.1 hZ hown w1 w2 w3 eT (g := mkF m pc Ls (.ref a :: S)) rfl (by rw [C.2.2.1]; exact hsz) rfl (hb C.2.1 hd) hfr (W := (S.map fun v => v.category).sum) (by show 2 * 0 + _ ≤ _; omega) hlo) K
/-! ### calls: by whatever pays them -/
/-- a payment in the road kit's own form, whatever the tables that the walk has come to -/
def Pay (l : Launch) (R : Room) (p : Program) (e : Env) (below : List Frame) (s : State) (args : Array Value) (Z : State) (y : MethodName) (ln W : Nat) (as' : Array Value) (h : Heap) (kc ks : Nat) (Q : Option Value → Heap → List Loc → Prop) : Prop :=
  ∀ vm0 : Vm, Z.Warmed39 vm0 → Back l R p e below (s.setVm vm0) args y ln W (fun A a => a = as' ∧ A.U.heap = h ∧ A.cells + kc ≤ R.cells ∧ A.slots + ks ≤ R.slots) (fun A _ v B => ∃ L, Q v B.U.heap L ∧ B.locs = A.locs ++ L ∧ B.cells = A.cells + kc ∧ B.slots = A.slots + ks)
/-- a contract of a body: from the heap h0, with the arguments as', it returns, Q holds, and nothing below n0 was written -/
def Ct (l : Launch) (Z : State) (y : MethodName) (yb : ByteArray) (yl : Nat) (yr : Option FieldType) (ws : List Jvm.Cond) (rm : Room) (as' : Array Value) (h0 : Heap) (n0 : Nat) (Q : Option Value → Heap → Prop) : Prop :=
  MetFree l y (head1 (Cond.code y yb yl yr :: ws) rm) (fun a U => a = as' ∧ Z.Warmed39 U.vm ∧ U.heap = h0) (fun _ _ _ _ _ => True) (fun _ U o U' => ∃ v L, o = .returned v ∧ (Q v U'.heap ∧ Fr n0 L) ∧ FrameEnd U o U' L rm.cells rm.slots)
/-- how a walk of a contract ends -/
def EnN (s : State) (R : Room) (n0 : Nat) (Q : Option Value → Heap → Prop) : Outcome → State → List Loc → Prop := fun o s₂ L => ∃ v, o = .returned v ∧ (Q v s₂.heap ∧ Fr n0 L) ∧ FrameEnd s o s₂ L R.cells R.slots
theorem Ct.of {y : MethodName} {yb : ByteArray} {yl : Nat} {yr : Option FieldType} {ws : List Jvm.Cond} {rm : Room} {as' : Array Value} {h0 : Heap} {Q : Option Value → Heap → Prop} {L0 : Array Slot} (hp : plainFor y = true) (hef : ∀ m, entryFrame m as' yl = mkF m 0 L0 [])
    (body : ∀ (p : Program) (e : Env) (s : State) (m : MethodId) (below : List Frame) (meth : Method) (c : Code), Cx p meth c yb yl yr → meth.name = y.name → Go p l e rm s m as' below meth c Z y.cls n0 (Bn s) (EnN s rm n0 Q) h0 0 0 0 L0 []) : Ct l Z y yb yl yr ws rm as' h0 n0 Q := by
  refine MetFree.of_bodySF hp hisR ?_
  intro p e s m args below meth c s₁ Bd hml0 hP hK
  obtain ⟨rfl, hZ, hh⟩ := hP
  have X0 := Stand.of_body Bd
  obtain ⟨s₂, o, L, h1, h2, h3, v, h4⟩ := body p e s m below meth c ⟨Bd.exec, Bd.bytes, hml0, Bd.returns, Bd.notSynchronized⟩ (name_of_methodNamed Bd.named Bd.method).1 s.vm s₁ [] hZ (findClass_of_methodNamed Bd.named) rfl X0 (Fr.nil n0) (by rw [← hh, Bd.state]; rfl)
  exact ⟨s₂, o, castTop (hef m) h1, h2, h3, v, L, h4⟩
theorem Ct.pay {y : MethodName} {yb : ByteArray} {yl : Nat} {yr : Option FieldType} {rm : Room} {as' : Array Value} {ln W : Nat} {Q : Option Value → Heap → Prop} (hM : Ct l Z y yb yl yr [] rm as' h n0 Q) (w4 : (Cond.code y yb yl yr).before a0 Z = true) (w3 : (Cond.initialized y.cls).before a0 Z = true) (hfr : rm.frames + 1 ≤ R.frames) (hlo : W + (yl + 11) + rm.locals ≤ R.locals) :
    Pay l R p e below s args Z y ln W as' h rm.cells rm.slots (fun v h' L => Q v h' ∧ Fr n0 L) := fun vm0 hZ =>
  backOf (s := s.setVm vm0) (Q := fun v h' L => Q v h' ∧ Fr n0 L) hM hZ w4 w3 hfr hlo
theorem Pay.mono {y : MethodName} {ln W kc ks : Nat} {as' : Array Value} {Q Q' : Option Value → Heap → List Loc → Prop} (hP : Pay l R p e below s args Z y ln W as' h kc ks Q) (q : ∀ v h' L, Q v h' L → Q' v h' L) : Pay l R p e below s args Z y ln W as' h kc ks Q' := fun vm0 hZ =>
  Back.mono (hP vm0 hZ) (fun _ _ r => r) (fun A a v B _ ⟨L, r1, r2⟩ => ⟨L, q _ _ _ r1, r2⟩)
/-- more cells and slots booked than made -/
theorem Go.more {cells' slots' : Nat} (hc : cells ≤ cells') (hs : slots ≤ slots') (K : Go p l e R s m args below meth c Z own n0 Bs En h cells' slots' pc Ls S) : Go p l e R s m args below meth c Z own n0 Bs En h cells slots pc Ls S := fun vm0 T locs hZ hown hB X hF eT => K vm0 T locs hZ hown hB (X.more hc hs) hF eT
theorem Go.callS (C : Cx p meth c bytes ml ret) {i : Nat} {y : MethodName} {yb : ByteArray} {yl : Nat} {yr : Option FieldType} {argsL rest : List Value} {W kc ks : Nat} {Q : Option Value → Heap → List Loc → Prop}
    (hd : decode bytes pc = .ok (.invokestatic i, 3)) (w1 : (Cond.methodLink own i y).before a0 Z = true) (w2 : (Cond.static y).before a0 Z = true) (w3 : (Cond.initialized y.cls).before a0 Z = true) (w4 : (Cond.code y yb yl yr).before a0 Z = true) (hy : y.cls ≠ "java/lang/invoke/MethodHandle" ∧ y.cls ≠ "java/lang/invoke/VarHandle")
    (hS : S = argsL.reverse ++ rest) (hlen : ∀ sig, parseMethodDescriptor y.desc = some sig → argsL.length = sig.parameters.length) (hsz : Ls.size = ml) (hW : (rest.map fun v => v.category).sum ≤ W) (hK : Pay l R p e below s args Z y 3 W argsL.toArray h kc ks Q)
    (hQ : ∀ v h' L, Q v h' L → Fr n0 L) (hce : cells + kc ≤ R.cells) (hsl : slots + ks ≤ R.slots) {Bs' : Vm → Heap → Prop} (hB : ∀ vm v h' L, Q v h' L → Bs vm h → Bs' vm h') (hp : pc + 3 = pc')
    (K : ∀ v h' L, Q v h' L → Go p l e R s m args below meth c Z own n0 Bs' En h' (cells + kc) (slots + ks) pc' Ls (v.toList ++ rest)) :
    Go p l e R s m args below meth c Z own n0 Bs En h cells slots pc Ls S := fun vm0 T locs hZ hown hBs X hF eT => by
  subst hp hS
  obtain ⟨v, vm1, ⟨T', L', k', n'⟩, -, X', ⟨Lc, hq, l1, y1, z1⟩, st⟩ := Jvm.LawKit.callS X C.1 (y := y) hown (mvT (s := s.setVm vm0) hZ w1) (mvT (s := s.setVm vm0) hZ w2) (mvT (s := s.setVm vm0) hZ w3) (mvT (s := s.setVm vm0) hZ w4) hy (hK vm0 hZ) (g := mkF m pc Ls (argsL.reverse ++ rest)) rfl (by rw [C.2.2.1]; exact hsz) (argsL := argsL) (rest := rest) hlen rfl (by show 2 * 0 + _ ≤ _; omega) (hb C.2.1 hd) (fun _ _ => ⟨rfl, eT, hce, hsl⟩)
  dsimp only [Pt.U, Pt.locs, Pt.cells, Pt.slots] at X' l1 y1 z1 st hq
  subst l1 y1 z1
  obtain ⟨s₂, o, L, k1, k2⟩ := K v T'.heap Lc hq vm0 T' _ hZ hown (hB _ _ _ _ hq hBs) X' (Fr.app hF (hQ _ _ _ hq)) rfl
  exact ⟨s₂, o, L, st _ k1, k2⟩
theorem Go.callV (C : Cx p meth c bytes ml ret) {i : Nat} {C0 : String} {b : Addr} {y z : MethodName} {argsL rest : List Value} {W kc ks : Nat} {Q : Option Value → Heap → List Loc → Prop}
    (hd : decode bytes pc = .ok (.invokevirtual i, 3)) (w1 : (Cond.methodLink own i y).before a0 Z = true) (w2 : (Cond.declares y).before a0 Z = true) (w3 : (Cond.selects C0 y z).before a0 Z = true) (w4 : (Cond.instanceMethod z).before a0 Z = true) (hnf : ∀ st : State, Z.Warmed39 st.vm → NotFace st y) (hy : y.cls ≠ "java/lang/invoke/MethodHandle" ∧ y.cls ≠ "java/lang/invoke/VarHandle") (E : Exa Z h b C0)
    (hS : S = argsL.reverse ++ .ref b :: rest) (hlen : ∀ sig, parseMethodDescriptor y.desc = some sig → argsL.length = sig.parameters.length) (hsz : Ls.size = ml) (hW : (rest.map fun v => v.category).sum ≤ W) (hK : Pay l R p e below s args Z z 3 W (.ref b :: argsL).toArray h kc ks Q)
    (hQ : ∀ v h' L, Q v h' L → Fr n0 L) (hce : cells + kc ≤ R.cells) (hsl : slots + ks ≤ R.slots) {Bs' : Vm → Heap → Prop} (hB : ∀ vm v h' L, Q v h' L → Bs vm h → Bs' vm h') (hp : pc + 3 = pc')
    (K : ∀ v h' L, Q v h' L → Go p l e R s m args below meth c Z own n0 Bs' En h' (cells + kc) (slots + ks) pc' Ls (v.toList ++ rest)) :
    Go p l e R s m args below meth c Z own n0 Bs En h cells slots pc Ls S := fun vm0 T locs hZ hown hBs X hF eT => by
  subst hp hS
  obtain ⟨cq, kq, qa, qb, qc⟩ := isOf (s := s.setVm vm0) hZ eT E
  obtain ⟨v, vm1, ⟨T', L', k', n'⟩, -, X', ⟨Lc, hq, l1, y1, z1⟩, st⟩ := X.virtualBack C.1 (y := y) (z := z) hown (mvT (s := s.setVm vm0) hZ w1) (mvT (s := s.setVm vm0) hZ w2) (hnf (s.setVm vm0) hZ) (mvT (s := s.setVm vm0) hZ w3) (mvT (s := s.setVm vm0) hZ w4) hy (hK vm0 hZ) qa qc (g := mkF m pc Ls (argsL.reverse ++ .ref b :: rest)) rfl (by rw [C.2.2.1]; exact hsz) (Steps.refl _) (argsL := argsL) (rest := rest) hlen rfl (by show 2 * 0 + _ ≤ _; omega) (hb C.2.1 hd) (fun _ _ => ⟨rfl, eT, hce, hsl⟩)
  dsimp only [Pt.U, Pt.locs, Pt.cells, Pt.slots] at X' l1 y1 z1 st hq
  subst l1 y1 z1
  obtain ⟨s₂, o, L, k1, k2⟩ := K v T'.heap Lc hq vm0 T' _ hZ hown (hB _ _ _ _ hq hBs) X' (Fr.app hF (hQ _ _ _ hq)) rfl
  exact ⟨s₂, o, L, st.trans k1, k2⟩
theorem Go.callN (C : Cx p meth c bytes ml ret) {i : Nat} {a : Addr} {y : MethodName} {yb : ByteArray} {yl : Nat} {argsL rest : List Value} {W kc ks : Nat} {Q : Option Value → Heap → List Loc → Prop}
    (hd : decode bytes pc = .ok (.invokespecial i, 3)) (hy1 : y.name = "<init>") (w1 : (Cond.methodLink own i y).before a0 Z = true) (w2 : (Cond.instanceMethod y).before a0 Z = true) (w3 : (Cond.code y yb yl none).before a0 Z = true) (hy : y.cls ≠ "java/lang/invoke/MethodHandle" ∧ y.cls ≠ "java/lang/invoke/VarHandle")
    (hS : S = argsL.reverse ++ .ref a :: rest) (hlen : ∀ sig, parseMethodDescriptor y.desc = some sig → argsL.length = sig.parameters.length) (hsz : Ls.size = ml) (hW : (rest.map fun v => v.category).sum ≤ W) (hK : Pay l R p e below s args Z y 3 W (.ref a :: argsL).toArray h kc ks Q)
    (hQ : ∀ v h' L, Q v h' L → Fr n0 L) (hce : cells + kc ≤ R.cells) (hsl : slots + ks ≤ R.slots) {Bs' : Vm → Heap → Prop} (hB : ∀ vm v h' L, Q v h' L → Bs vm h → Bs' vm h') (hp : pc + 3 = pc')
    (K : ∀ v h' L, Q v h' L → Go p l e R s m args below meth c Z own n0 Bs' En h' (cells + kc) (slots + ks) pc' Ls (v.toList ++ rest)) :
    Go p l e R s m args below meth c Z own n0 Bs En h cells slots pc Ls S := fun vm0 T locs hZ hown hBs X hF eT => by
  subst hp hS
  obtain ⟨v, vm1, ⟨T', L', k', n'⟩, -, X', ⟨Lc, hq, l1, y1, z1⟩, st⟩ := X.specialBack C.1 (y := y) hy1 hown (mvT (s := s.setVm vm0) hZ w1) (mvT (s := s.setVm vm0) hZ w2) (mvT (s := s.setVm vm0) hZ w3) hy (hK vm0 hZ) (g := mkF m pc Ls (argsL.reverse ++ .ref a :: rest)) rfl (by rw [C.2.2.1]; exact hsz) (Steps.refl _) (a := a) (argsL := argsL) (rest := rest) hlen rfl (by show 2 * 0 + _ ≤ _; omega) (hb C.2.1 hd) (fun _ _ => ⟨rfl, eT, hce, hsl⟩)
  dsimp only [Pt.U, Pt.locs, Pt.cells, Pt.slots] at X' l1 y1 z1 st hq
  subst l1 y1 z1
  obtain ⟨s₂, o, L, k1, k2⟩ := K v T'.heap Lc hq vm0 T' _ hZ hown (hB _ _ _ _ hq hBs) X' (Fr.app hF (hQ _ _ _ hq)) rfl
  exact ⟨s₂, o, L, st.trans k1, k2⟩
/-! ### the ends of a walk that interns nothing -/
theorem Go.retI (C : Cx p meth c bytes ml (some .int)) {z : Int32} {Q : Option Value → Heap → Prop} (hd : decode bytes pc = .ok (.ireturn, 1)) (hc : cells ≤ R.cells) (hl : slots ≤ R.slots) (hQ : Q (some (.int z)) h) : Go p l e R s m args below meth c Z own n0 (Bn s) (EnN s R n0 Q) h cells slots pc Ls (.int z :: S) := fun vm0 T locs hZ hown hB X hF eT => by
  obtain rfl : vm0 = s.vm := hB
  obtain ⟨fs, hr, hrun, hended, hW, hsame⟩ := X.leave (v := some (.int z)) (fun q => by rw [C.2.2.2.1] at q; cases q) C.2.2.2.2
  exact ⟨_, _, locs, Jvm.RoadKit.retOut X C.1 C.2.2.2.1 rfl (Or.inl ⟨rfl, Or.inl rfl, _, rfl⟩) (hb C.2.1 hd) hr, hrun, hended, _, rfl, ⟨by subst eT; exact hQ, hF⟩, ⟨_, rfl⟩, hW, hsame.mono hc hl⟩
theorem Go.retN {t : FieldType} (C : Cx p meth c bytes ml (some t)) (ht : t = .boolean ∨ t = .byte ∨ t = .char ∨ t = .short) {z : Int32} {Q : Option Value → Heap → Prop} (hd : decode bytes pc = .ok (.ireturn, 1)) (hc : cells ≤ R.cells) (hl : slots ≤ R.slots) (hQ : Q (some (.int (nar t z))) h) : Go p l e R s m args below meth c Z own n0 (Bn s) (EnN s R n0 Q) h cells slots pc Ls (.int z :: S) := fun vm0 T locs hZ hown hB X hF eT => by
  obtain rfl : vm0 = s.vm := hB
  obtain ⟨fs, hr, hrun, hended, hW, hsame⟩ := X.leave (v := some (.int (nar t z))) (fun q => by rw [C.2.2.2.1] at q; cases q) C.2.2.2.2
  exact ⟨_, _, locs, Jvm.RoadKit.retN X C.1 C.2.2.2.1 ht (hb C.2.1 hd) hr, hrun, hended, _, rfl, ⟨by subst eT; exact hQ, hF⟩, ⟨_, rfl⟩, hW, hsame.mono hc hl⟩
theorem Go.retA {t : FieldType} (C : Cx p meth c bytes ml (some t)) (ht : t.isReference = true) {v : Value} {Q : Option Value → Heap → Prop} (hd : decode bytes pc = .ok (.areturn, 1)) (hv : v.isRef = true) (hc : cells ≤ R.cells) (hl : slots ≤ R.slots) (hQ : Q (some v) h) : Go p l e R s m args below meth c Z own n0 (Bn s) (EnN s R n0 Q) h cells slots pc Ls (v :: S) := fun vm0 T locs hZ hown hB X hF eT => by
  obtain rfl : vm0 = s.vm := hB
  obtain ⟨fs, hr, hrun, hended, hW, hsame⟩ := X.leave (v := some v) (fun q => by rw [C.2.2.2.1] at q; cases q) C.2.2.2.2
  have hn : narrow t v = v := by cases v <;> simp [Value.isRef] at hv <;> cases t <;> simp [FieldType.isReference] at ht <;> rfl
  exact ⟨_, _, locs, Jvm.RoadKit.retOut X C.1 C.2.2.2.1 hn (Or.inr (Or.inr (Or.inr (Or.inr ⟨rfl, ht, hv⟩)))) (hb C.2.1 hd) hr, hrun, hended, _, rfl, ⟨by subst eT; exact hQ, hF⟩, ⟨_, rfl⟩, hW, hsame.mono hc hl⟩
theorem Go.retL (C : Cx p meth c bytes ml (some .long)) {z : Int64} {Q : Option Value → Heap → Prop} (hd : decode bytes pc = .ok (.lreturn, 1)) (hc : cells ≤ R.cells) (hl : slots ≤ R.slots) (hQ : Q (some (.long z)) h) : Go p l e R s m args below meth c Z own n0 (Bn s) (EnN s R n0 Q) h cells slots pc Ls (.long z :: S) := fun vm0 T locs hZ hown hB X hF eT => by
  obtain rfl : vm0 = s.vm := hB
  obtain ⟨fs, hr, hrun, hended, hW, hsame⟩ := X.leave (v := some (.long z)) (fun q => by rw [C.2.2.2.1] at q; cases q) C.2.2.2.2
  exact ⟨_, _, locs, Jvm.RoadKit.retOut X C.1 C.2.2.2.1 rfl (Or.inr (Or.inl ⟨rfl, rfl, _, rfl⟩)) (hb C.2.1 hd) hr, hrun, hended, _, rfl, ⟨by subst eT; exact hQ, hF⟩, ⟨_, rfl⟩, hW, hsame.mono hc hl⟩
theorem Go.retD (C : Cx p meth c bytes ml (some .double)) {z : UInt64} {Q : Option Value → Heap → Prop} (hd : decode bytes pc = .ok (.dreturn, 1)) (hc : cells ≤ R.cells) (hl : slots ≤ R.slots) (hQ : Q (some (.double z)) h) : Go p l e R s m args below meth c Z own n0 (Bn s) (EnN s R n0 Q) h cells slots pc Ls (.double z :: S) := fun vm0 T locs hZ hown hB X hF eT => by
  obtain rfl : vm0 = s.vm := hB
  obtain ⟨fs, hr, hrun, hended, hW, hsame⟩ := X.leave (v := some (.double z)) (fun q => by rw [C.2.2.2.1] at q; cases q) C.2.2.2.2
  exact ⟨_, _, locs, Jvm.RoadKit.retOut X C.1 C.2.2.2.1 rfl (Or.inr (Or.inr (Or.inl ⟨rfl, rfl, _, rfl⟩))) (hb C.2.1 hd) hr, hrun, hended, _, rfl, ⟨by subst eT; exact hQ, hF⟩, ⟨_, rfl⟩, hW, hsame.mono hc hl⟩
theorem Go.retV (C : Cx p meth c bytes ml none) {Q : Option Value → Heap → Prop} (hd : decode bytes pc = .ok (.return_, 1)) (hc : cells ≤ R.cells) (hl : slots ≤ R.slots) (hQ : Q none h) : Go p l e R s m args below meth c Z own n0 (Bn s) (EnN s R n0 Q) h cells slots pc Ls [] := fun vm0 T locs hZ hown hB X hF eT => by
  obtain rfl : vm0 = s.vm := hB
  obtain ⟨fs, hr, hrun, hended, hW, hsame⟩ := X.leave (v := none) (fun q => rfl) C.2.2.2.2
  exact ⟨_, _, locs, X.returnOut C.1 C.2.2.2.1 (hb C.2.1 hd) hr, hrun, hended, _, rfl, ⟨by subst eT; exact hQ, hF⟩, ⟨_, rfl⟩, hW, hsame.mono hc hl⟩
/-! ### arrays by what they hold -/
theorem Go.newPV (C : Cx p meth c bytes ml ret) {Bs' : Vm → Heap → Prop} (hE : ∀ vm h', Ext h h' → h.size < h'.size → Bs vm h → Bs' vm h') {aty : ArrayType} {n : Int32} (hd : decode bytes pc = .ok (.newarray aty, 2)) (w : (Cond.arrayClass (newarray.typeOf aty)).before a0 Z = true) (hn : ¬ n < 0) {cap : Nat} (hcap : n.toNatClampNeg ≤ cap) (hb8 : cap * 8 ≤ 536870912) (hc : cells + 1 ≤ R.cells) (hl : slots + cap ≤ R.slots) (hp : pc + 2 = pc') {dv : Value} (hdv : defaultValue (newarray.typeOf aty) = dv)
    (K : ∀ h' cA, Ext h h' → Arv Z h' h.size cA (newarray.typeOf aty) n (List.replicate cap dv) dv → Go p l e R s m args below meth c Z own n0 Bs' En h' (cells + 1) (slots + cap) pc' Ls (.ref h.size :: S)) :
    Go p l e R s m args below meth c Z own n0 Bs En h cells slots pc Ls (.int n :: S) :=
  Go.newP C hE hd w hn hcap hb8 hc hl hp fun h' cA E A => K h' cA E (by subst hdv; simpa using (Arv.new A hn).pad (pad_rep [] _ cap))
theorem arv_in {a : Addr} {k : ClassId} {ty : FieldType} {z j : Int32} {vs : List Value} {dv : Value} (V : Arv Z h a k ty z vs dv) (h0 : ¬ j < 0) (hz : j < z) : ∃ cl, Arr Z h a cl ty ∧ ¬ (j < 0 ∨ cl.slots.size ≤ j.toNatClampNeg) ∧ cl.slots[j.toNatClampNeg]? = some (vs.getD j.toNatClampNeg dv) := by
  obtain ⟨cl, A, q, S, M, H, U⟩ := V
  have hin := inb_of S ⟨h0, hz⟩
  exact ⟨cl, A, hin, H.at hin rfl⟩
theorem Go.castoreV (C : Cx p meth c bytes ml ret) {a : Addr} {k : ClassId} {z j x : Int32} {vs : List Value} {dv : Value} (hd : decode bytes pc = .ok (.castore, 1)) (V : Arv Z h a k .char z vs dv) (h0 : ¬ j < 0) (hz : j < z) (i : Nat) (hji : j.toNatClampNeg = i) (hi : i < vs.length) (hn : n0 ≤ a) (hB : ∀ vm h', Wr h h' a j.toNatClampNeg (.int (nar .char x)) → Bs vm h → Bs vm h') (hp : pc + 1 = pc')
    (K : ∀ h', Wr h h' a j.toNatClampNeg (.int (nar .char x)) → Arv Z h' a k .char z (vs.set i (.int (nar .char x))) dv → Go p l e R s m args below meth c Z own n0 Bs En h' cells slots pc' Ls S) :
    Go p l e R s m args below meth c Z own n0 Bs En h cells slots pc Ls (.int x :: .int j :: .ref a :: S) := by
  obtain ⟨cl, A, q, S1, M, H, U⟩ := V
  exact Go.castore C hd A (inb_of S1 ⟨h0, hz⟩) hn hB hp fun h' W => K h' W (Arv.set A q S1 M H U (fits_nar_char _) W i hji hi)
theorem Go.bastoreV (C : Cx p meth c bytes ml ret) {a : Addr} {k : ClassId} {z j x : Int32} {vs : List Value} {dv : Value} (hd : decode bytes pc = .ok (.bastore, 1)) (V : Arv Z h a k .byte z vs dv) (h0 : ¬ j < 0) (hz : j < z) (i : Nat) (hji : j.toNatClampNeg = i) (hi : i < vs.length) (hn : n0 ≤ a) (hB : ∀ vm h', Wr h h' a j.toNatClampNeg (.int (nar .byte x)) → Bs vm h → Bs vm h') (hp : pc + 1 = pc')
    (K : ∀ h', Wr h h' a j.toNatClampNeg (.int (nar .byte x)) → Arv Z h' a k .byte z (vs.set i (.int (nar .byte x))) dv → Go p l e R s m args below meth c Z own n0 Bs En h' cells slots pc' Ls S) :
    Go p l e R s m args below meth c Z own n0 Bs En h cells slots pc Ls (.int x :: .int j :: .ref a :: S) := by
  obtain ⟨cl, A, q, S1, M, H, U⟩ := V
  exact Go.bastore C hd A (inb_of S1 ⟨h0, hz⟩) hn hB hp fun h' W => K h' W (Arv.set A q S1 M H U (fits_nar_byte _) W i hji hi)
theorem Go.dastoreV (C : Cx p meth c bytes ml ret) {a : Addr} {k : ClassId} {z j : Int32} {x : UInt64} {vs : List Value} {dv : Value} (hd : decode bytes pc = .ok (.dastore, 1)) (V : Arv Z h a k .double z vs dv) (h0 : ¬ j < 0) (hz : j < z) (i : Nat) (hji : j.toNatClampNeg = i) (hi : i < vs.length) (hn : n0 ≤ a) (hB : ∀ vm h', Wr h h' a j.toNatClampNeg (.double x) → Bs vm h → Bs vm h') (hp : pc + 1 = pc')
    (K : ∀ h', Wr h h' a j.toNatClampNeg (.double x) → Arv Z h' a k .double z (vs.set i (.double x)) dv → Go p l e R s m args below meth c Z own n0 Bs En h' cells slots pc' Ls S) :
    Go p l e R s m args below meth c Z own n0 Bs En h cells slots pc Ls (.double x :: .int j :: .ref a :: S) := fun vm0 T locs hZ hown hBs X hF eT => by
  subst hp
  obtain ⟨cl, A, q, S1, M, H, U⟩ := V
  obtain ⟨T', h', X', e', W, st⟩ := stD X C.1 hZ eT A (inb_of S1 ⟨h0, hz⟩) (g := mkF m pc Ls (.double x :: .int j :: .ref a :: S)) rfl rfl (hb C.2.1 hd)
  obtain ⟨s₂, o, L, k1, k2⟩ := K h' W (Arv.set A q S1 M H U rfl W i hji hi) vm0 T' _ hZ hown (hB _ _ W hBs) X' (Fr.snoc X' hF hn) e'
  exact ⟨s₂, o, L, st _ k1, k2⟩
theorem Go.daloadV (C : Cx p meth c bytes ml ret) {a : Addr} {k : ClassId} {z j : Int32} {vs : List Value} {dv v : Value} (hd : decode bytes pc = .ok (.daload, 1)) (V : Arv Z h a k .double z vs dv) (h0 : ¬ j < 0) (hz : j < z) (hv : vs.getD j.toNatClampNeg dv = v) (hp : pc + 1 = pc')
    (K : Go p l e R s m args below meth c Z own n0 Bs En h cells slots pc' Ls (v :: S)) : Go p l e R s m args below meth c Z own n0 Bs En h cells slots pc Ls (.int j :: .ref a :: S) := by
  obtain ⟨cl, A, hin, q⟩ := arv_in V h0 hz
  exact Go.daload C hd A hin (hv ▸ q) hp K
theorem Go.aaloadV (C : Cx p meth c bytes ml ret) {a : Addr} {k : ClassId} {ty : FieldType} {z j : Int32} {vs : List Value} {dv v : Value} (hd : decode bytes pc = .ok (.aaload, 1)) (V : Arv Z h a k ty z vs dv) (hty : ty.isReference = true) (h0 : ¬ j < 0) (hz : j < z) (hv : vs.getD j.toNatClampNeg dv = v) (hp : pc + 1 = pc')
    (K : Go p l e R s m args below meth c Z own n0 Bs En h cells slots pc' Ls (v :: S)) : Go p l e R s m args below meth c Z own n0 Bs En h cells slots pc Ls (.int j :: .ref a :: S) := by
  obtain ⟨cl, A, hin, q⟩ := arv_in V h0 hz
  exact Go.aaload C hd A hty hin (hv ▸ q) hp K
/-- newarray, and the array's class by its name -/
theorem Go.newPVE (C : Cx p meth c bytes ml ret) {Bs' : Vm → Heap → Prop} (hE : ∀ vm h', Ext h h' → h.size < h'.size → Bs vm h → Bs' vm h') {aty : ArrayType} {n : Int32} (hd : decode bytes pc = .ok (.newarray aty, 2)) (w : (Cond.arrayClass (newarray.typeOf aty)).before a0 Z = true) (hn : ¬ n < 0) {cap : Nat} (hcap : n.toNatClampNeg ≤ cap) (hb8 : cap * 8 ≤ 536870912) (hc : cells + 1 ≤ R.cells) (hl : slots + cap ≤ R.slots) (hp : pc + 2 = pc') {dv : Value} (hdv : defaultValue (newarray.typeOf aty) = dv) {ad : String} (had : "[" ++ (newarray.typeOf aty).toString = ad)
    (K : ∀ h' cA, Ext h h' → Arv Z h' h.size cA (newarray.typeOf aty) n (List.replicate cap dv) dv → Exa Z h' h.size ad → Go p l e R s m args below meth c Z own n0 Bs' En h' (cells + 1) (slots + cap) pc' Ls (.ref h.size :: S)) :
    Go p l e R s m args below meth c Z own n0 Bs En h cells slots pc Ls (.int n :: S) := fun vm0 T locs hZ hown hB X hF eT => by
  subst hp hdv
  obtain ⟨T', h', cA, X', e', E, A, A2, st⟩ := Jvm.RoadKit.newPE X C.1 hZ w eT (g := mkF m pc Ls (.int n :: S)) rfl (hb C.2.1 hd) rfl hn hcap hb8 hc hl had
  obtain ⟨s₂, o, L, k1, k2⟩ := K h' cA E (by simpa using (Arv.new A hn).pad (pad_rep [] _ cap)) A2 vm0 T' locs hZ hown (hE _ _ E A.lt hB) X' hF e'
  exact ⟨s₂, o, L, st _ k1, k2⟩
/-- an array's clone() -/
theorem Go.cloneV (C : Cx p meth c bytes ml ret) {Bs' : Vm → Heap → Prop} (hE : ∀ vm h', Ext h h' → h.size < h'.size → Bs vm h → Bs' vm h') {i cap : Nat} {ad : String} {a : Addr} {k : ClassId} {ty : FieldType} {z : Int32} {vs : List Value} {dv : Value} (hd : decode bytes pc = .ok (.invokevirtual i, 3))
    (w1 : (Cond.methodLink own i ⟨ad, "clone", "()Ljava/lang/Object;"⟩).before a0 Z = true) (w2 : (Cond.sameMethod ad "java/lang/Object" "clone" "()Ljava/lang/Object;").before a0 Z = true) (w3 : (Cond.native ⟨"java/lang/Object", "clone", "()Ljava/lang/Object;"⟩).before a0 Z = true)
    (w4 : (Cond.instanceMethod ⟨"java/lang/Object", "clone", "()Ljava/lang/Object;"⟩).before a0 Z = true) (w5 : (Cond.selects ad ⟨ad, "clone", "()Ljava/lang/Object;"⟩ ⟨"java/lang/Object", "clone", "()Ljava/lang/Object;"⟩).before a0 Z = true) (w6 : (Cond.castable ad "java/lang/Cloneable").before a0 Z = true)
    (V : Arv Z h a k ty z vs dv) (E : Exa Z h a ad) (hsz : Ls.size = ml) (hfr : 1 ≤ R.frames) (hlo : (S.map fun v => v.category).sum + 14 ≤ R.locals) (hcap : z.toNatClampNeg ≤ cap) (hc : cells + 1 ≤ R.cells) (hsl : slots + cap ≤ R.slots) (hp : pc + 3 = pc')
    (K : ∀ h', Ext h h' → Arv Z h' h.size k ty z vs dv → Exa Z h' h.size ad → Go p l e R s m args below meth c Z own n0 Bs' En h' (cells + 1) (slots + cap) pc' Ls (.ref h.size :: S)) :
    Go p l e R s m args below meth c Z own n0 Bs En h cells slots pc Ls (.ref a :: S) := fun vm0 T locs hZ hown hB X hF eT => by
  subst hp
  obtain ⟨T', h', X', e', E1, A1, A2, st⟩ := Jvm.RoadKit.cloneH X C.1 hZ hown w1 w2 w3 w4 w5 w6 eT V.arh E (g := mkF m pc Ls (.ref a :: S)) rfl (by rw [C.2.2.1]; exact hsz) rfl (hb C.2.1 hd) hfr (W := (S.map fun v => v.category).sum) (by show 2 * 0 + _ ≤ _; omega) hlo hcap hc hsl
  obtain ⟨s₂, o, L, k1, k2⟩ := K h' E1 A1 A2 vm0 T' locs hZ hown (hE _ _ E1 A2.lt hB) X' hF e'
  exact ⟨s₂, o, L, st _ k1, k2⟩
theorem Go.baloadV (C : Cx p meth c bytes ml ret) {a : Addr} {k : ClassId} {z j : Int32} {vs : List Value} {dv v : Value} (hd : decode bytes pc = .ok (.baload, 1)) (V : Arv Z h a k .byte z vs dv) (h0 : ¬ j < 0) (hz : j < z) (hv : vs.getD j.toNatClampNeg dv = v) (hp : pc + 1 = pc')
    (K : Go p l e R s m args below meth c Z own n0 Bs En h cells slots pc' Ls (v :: S)) : Go p l e R s m args below meth c Z own n0 Bs En h cells slots pc Ls (.int j :: .ref a :: S) := by
  obtain ⟨cl, A, hin, q⟩ := arv_in V h0 hz
  exact Go.baload C hd A hin (hv ▸ q) hp K
theorem Go.caloadV (C : Cx p meth c bytes ml ret) {a : Addr} {k : ClassId} {z j : Int32} {vs : List Value} {dv v : Value} (hd : decode bytes pc = .ok (.caload, 1)) (V : Arv Z h a k .char z vs dv) (h0 : ¬ j < 0) (hz : j < z) (hv : vs.getD j.toNatClampNeg dv = v) (hp : pc + 1 = pc')
    (K : Go p l e R s m args below meth c Z own n0 Bs En h cells slots pc' Ls (v :: S)) : Go p l e R s m args below meth c Z own n0 Bs En h cells slots pc Ls (.int j :: .ref a :: S) := by
  obtain ⟨cl, A, hin, q⟩ := arv_in V h0 hz
  exact Go.caload C hd A hin (hv ▸ q) hp K
theorem Go.arraylengthV (C : Cx p meth c bytes ml ret) {a : Addr} {k : ClassId} {ty : FieldType} {z : Int32} {vs : List Value} {dv : Value} (hd : decode bytes pc = .ok (.arraylength, 1)) (V : Arv Z h a k ty z vs dv) (hp : pc + 1 = pc')
    (K : Go p l e R s m args below meth c Z own n0 Bs En h cells slots pc' Ls (.int z :: S)) : Go p l e R s m args below meth c Z own n0 Bs En h cells slots pc Ls (.ref a :: S) := by
  obtain ⟨cl, A, q, S1, M, H, U⟩ := V
  exact Go.arraylength C hd A (len_of S1 M) hp K
end Heaps
end Jvm.Own

namespace Jvm.Own
open Jvm.FP.Core
theorem fp_cancel {A X : Nat} {e q E : Int} (h1 : 0 ≤ e + E) (h2 : 0 ≤ q + E) (h : A * 2 ^ (e + E).toNat = X * 2 ^ (q + E).toNat) : A * 2 ^ (e - q).toNat = X * 2 ^ (q - e).toNat := by
  by_cases c : e ≤ q
  · have e1 : (q + E).toNat = (q - e).toNat + (e + E).toNat := by omega
    have e2 : (e - q).toNat = 0 := by omega
    rw [e1, Nat.pow_add, ← Nat.mul_assoc] at h
    rw [e2, Nat.pow_zero, Nat.mul_one]
    exact Nat.eq_of_mul_eq_mul_right (Nat.two_pow_pos _) h
  · have e1 : (e + E).toNat = (e - q).toNat + (q + E).toNat := by omega
    have e2 : (q - e).toNat = 0 := by omega
    rw [e1, Nat.pow_add, ← Nat.mul_assoc] at h
    rw [e2, Nat.pow_zero, Nat.mul_one]
    exact Nat.eq_of_mul_eq_mul_right (Nat.two_pow_pos _) h
theorem fp_qmin : b64.qmin = -1074 := by decide
theorem fp_qmax : b64.qmax = 971 := by decide
theorem fp_tails : b64.tails = 2 ^ 52 := by decide
theorem fp_rep {M j : Nat} (hM : M < 2 ^ 53) (hj : j ≤ 2045) (s : Bool) : ∃ c q, Jvm.FP.Core.fits b64 (.fin s c q) ∧ -1074 ≤ q ∧ c * 2 ^ (q + 1074).toNat = M * 2 ^ j := by
  by_cases h0 : M = 0
  · subst h0
    exact ⟨0, -1074, ⟨by decide, by decide, by decide, Or.inl (by decide)⟩, by decide, by simp⟩
  · have hL1 : 2 ^ M.log2 ≤ M := Nat.log2_self_le h0
    have hL2 : M < 2 ^ (M.log2 + 1) := Nat.lt_log2_self
    have hL : M.log2 < 53 := (Nat.pow_lt_pow_iff_right (by decide : 1 < 2)).mp (Nat.lt_of_le_of_lt hL1 hM)
    refine ⟨M * 2 ^ min j (52 - M.log2), ((j - min j (52 - M.log2) : Nat) : Int) - 1074, ⟨?_, ?_, ?_, ?_⟩, by omega, ?_⟩
    · show _ < 2 ^ 53
      calc M * 2 ^ min j (52 - M.log2) < 2 ^ (M.log2 + 1) * 2 ^ min j (52 - M.log2) := Nat.mul_lt_mul_of_pos_right hL2 (Nat.two_pow_pos _)
        _ = 2 ^ (M.log2 + 1 + min j (52 - M.log2)) := (Nat.pow_add ..).symm
        _ ≤ 2 ^ 53 := Nat.pow_le_pow_right (by decide) (by omega)
    · rw [fp_qmin]; omega
    · rw [fp_qmax]; omega
    · rw [fp_qmin, fp_tails]
      by_cases c : j ≤ 52 - M.log2
      · left; omega
      · right
        have : min j (52 - M.log2) = 52 - M.log2 := by omega
        rw [this]
        calc 2 ^ 52 = 2 ^ M.log2 * 2 ^ (52 - M.log2) := by rw [← Nat.pow_add]; congr 1; omega
          _ ≤ M * 2 ^ (52 - M.log2) := Nat.mul_le_mul_right _ hL1
    · have : ((((j - min j (52 - M.log2) : Nat) : Int) - 1074) + 1074).toNat = j - min j (52 - M.log2) := by omega
      rw [this, Nat.mul_assoc, ← Nat.pow_add]; congr 2; omega
theorem fp_rr {s : Bool} {A B M k E : Nat} {e : Int} (hB : 0 < B) (hM : M < 2 ^ 53) (hk : k ≤ 1074) (hE : 1074 ≤ E) (he : 0 ≤ e + E) (h : A * 2 ^ (e + E).toNat = B * (M * 2 ^ (E - k))) :
    ∃ c q, roundRatio b64 s A B e = .fin s c q ∧ c * 2 ^ (q + 1074).toNat = M * 2 ^ (1074 - k) := by
  obtain ⟨c, q, hf, hq, hc⟩ := fp_rep (M := M) (j := 1074 - k) hM (by omega) s
  refine ⟨c, q, roundRatio_exact good_b64 hB hf (fp_cancel (E := E) he (by omega) ?_), hc⟩
  have e1 : (q + E).toNat = (q + 1074).toNat + (E - 1074) := by omega
  have e2 : E - k = (1074 - k) + (E - 1074) := by omega
  rw [h, e1, e2, Nat.pow_add, Nat.pow_add, ← Nat.mul_assoc M, ← hc]
  simp only [Nat.mul_comm, Nat.mul_left_comm, Nat.mul_assoc]
theorem fp_abs {s : Bool} {X : Nat} {n : Int} {P : Nat} (h : signed s X = n * (P : Int)) : X = n.natAbs * P := by
  have := congrArg Int.natAbs h
  rwa [natAbs_signed, Int.natAbs_mul, Int.natAbs_natCast] at this
theorem fp_sgn {s : Bool} {X P : Nat} {n : Int} (hP : 0 < P) (h : signed s X = n * (P : Int)) : (0 < n → s = false) ∧ (n < 0 → s = true) := by
  have hP' : (0 : Int) < P := by omega
  constructor
  · intro hn; have := Int.mul_pos hn hP'; cases s with
    | false => rfl
    | true => simp only [signed, if_true] at h; omega
  · intro hn; have := Int.mul_neg_of_neg_of_pos hn hP'; cases s with
    | false => simp only [signed, Bool.false_eq_true, if_false] at h; omega
    | true => rfl
theorem fp_put {s : Bool} {n : Int} (h1 : 0 < n → s = false) (h2 : n < 0 → s = true) (Y : Nat) : signed s (n.natAbs * Y) = n * (Y : Int) := by
  rcases Int.lt_trichotomy n 0 with h | h | h
  · rw [h2 h]; simp only [signed, if_true]; rw [Int.natCast_mul, ← Int.neg_mul]; congr 1; omega
  · subst h; simp [signed_zero]
  · rw [h1 h]; simp only [signed, Bool.false_eq_true, if_false]; rw [Int.natCast_mul]; congr 1; omega
/-- x is the number n / 2^k -/
def DV (x : UInt64) (n : Int) (k : Nat) : Prop := k ≤ 1074 ∧ ∃ s c q, val64 x = .fin s c q ∧ signed s (c * 2 ^ (q + 1074).toNat) = n * ((2 ^ (1074 - k) : Nat) : Int)
theorem fp_q {x : UInt64} {s c q} (h : val64 x = .fin s c q) : -1074 ≤ q ∧ q ≤ 971 := by
  have := val64_fits x
  rw [h] at this
  obtain ⟨-, h1, h2, -⟩ := this
  rw [fp_qmin] at h1; rw [fp_qmax] at h2
  exact ⟨h1, h2⟩
theorem DV.scale {x : UInt64} {n : Int} {k : Nat} (h : DV x n k) (j : Nat) (hj : k + j ≤ 1074) : DV x (n * ((2 ^ j : Nat) : Int)) (k + j) := by
  obtain ⟨hk, s, c, q, h1, h2⟩ := h
  refine ⟨hj, s, c, q, h1, ?_⟩
  rw [h2, Int.mul_assoc, ← Int.natCast_mul, ← Nat.pow_add]; congr 4; omega
theorem DV.mul {x y : UInt64} {n m : Int} {k l : Nat} (hx : DV x n k) (hy : DV y m l) (hkl : k + l ≤ 1074) (hb : (n * m).natAbs < 2 ^ 53) : DV (dmul x y) (n * m) (k + l) := by
  obtain ⟨hk, s, c, q, h1, h2⟩ := hx
  obtain ⟨hl, t, d, r, g1, g2⟩ := hy
  obtain ⟨q1, q2⟩ := fp_q h1
  obtain ⟨r1, r2⟩ := fp_q g1
  have a1 := fp_abs h2
  have b1 := fp_abs g2
  have v : val64 (dmul x y) = roundRatio b64 (s != t) (c * d) 1 (q + r) := by rw [val64_dmul, h1, g1]; rfl
  obtain ⟨c', q', w1, w2⟩ := fp_rr (s := (s != t)) (A := c * d) (B := 1) (M := (n * m).natAbs) (k := k + l) (E := 2148) (e := q + r) (by decide) hb hkl (by decide) (by omega) (by
    have e1 : (q + r + (2148 : Nat)).toNat = (q + 1074).toNat + (r + 1074).toNat := by omega
    have e2 : 2148 - (k + l) = (1074 - k) + (1074 - l) := by omega
    rw [e1, e2, Nat.pow_add, Nat.pow_add, Int.natAbs_mul]
    calc c * d * (2 ^ (q + 1074).toNat * 2 ^ (r + 1074).toNat) = (c * 2 ^ (q + 1074).toNat) * (d * 2 ^ (r + 1074).toNat) := by simp only [Nat.mul_comm, Nat.mul_left_comm, Nat.mul_assoc]
      _ = _ := by rw [a1, b1]; simp only [Nat.mul_comm, Nat.mul_left_comm, Nat.mul_assoc, Nat.one_mul])
  refine ⟨hkl, _, c', q', v.trans w1, ?_⟩
  rw [w2]
  have sg := fp_sgn (Nat.two_pow_pos _) h2
  have tg := fp_sgn (Nat.two_pow_pos _) g2
  refine fp_put ?_ ?_ _
  · intro h
    rcases Int.lt_trichotomy n 0 with hn | hn | hn
    · have hm : m < 0 := by
        apply Int.lt_of_not_ge; intro z
        have := Int.mul_nonpos_of_nonpos_of_nonneg (Int.le_of_lt hn) z; omega
      rw [sg.2 hn, tg.2 hm]; rfl
    · rw [hn, Int.zero_mul] at h; omega
    · have hm : 0 < m := by
        apply Int.lt_of_not_ge; intro z
        have := Int.mul_nonpos_of_nonneg_of_nonpos (Int.le_of_lt hn) z; omega
      rw [sg.1 hn, tg.1 hm]; rfl
  · intro h
    rcases Int.lt_trichotomy n 0 with hn | hn | hn
    · have hm : 0 < m := by
        apply Int.lt_of_not_ge; intro z
        have := Int.mul_nonneg_of_nonpos_of_nonpos (Int.le_of_lt hn) z; omega
      rw [sg.2 hn, tg.1 hm]; rfl
    · rw [hn, Int.zero_mul] at h; omega
    · have hm : m < 0 := by
        apply Int.lt_of_not_ge; intro z
        have := Int.mul_nonneg (Int.le_of_lt hn) z; omega
      rw [sg.1 hn, tg.2 hm]; rfl
theorem DV.add {x y : UInt64} {n m : Int} {k : Nat} (hx : DV x n k) (hy : DV y m k) (hb : (n + m).natAbs < 2 ^ 53) : DV (dadd x y) (n + m) k := by
  obtain ⟨hk, s, c, q, h1, h2⟩ := hx
  obtain ⟨-, t, d, r, g1, g2⟩ := hy
  obtain ⟨q1, q2⟩ := fp_q h1
  obtain ⟨r1, r2⟩ := fp_q g1
  have v : val64 (dadd x y) = roundRatio b64 (sumSign s t (sumUnits s c q t d r (min q r))) (sumUnits s c q t d r (min q r)).natAbs 1 (min q r) := by rw [val64_dadd, h1, g1]; rfl
  have hV : sumUnits s c q t d r (min q r) * ((2 ^ (min q r + 1074).toNat : Nat) : Int) = (n + m) * ((2 ^ (1074 - k) : Nat) : Int) := by
    unfold sumUnits inUnits
    rw [Int.add_mul, ← signed_mul, ← signed_mul, Nat.mul_assoc, Nat.mul_assoc, ← Nat.pow_add, ← Nat.pow_add, Int.add_mul, ← h2, ← g2]
    have e1 : (q - min q r).toNat + (min q r + 1074).toNat = (q + 1074).toNat := by omega
    have e2 : (r - min q r).toNat + (min q r + 1074).toNat = (r + 1074).toNat := by omega
    rw [e1, e2]
  generalize sumUnits s c q t d r (min q r) = V at v hV
  obtain ⟨c', q', w1, w2⟩ := fp_rr (s := sumSign s t V) (A := V.natAbs) (B := 1) (M := (n + m).natAbs) (k := k) (E := 1074) (e := min q r) (by decide) hb hk (by decide) (by omega) (by
    have := congrArg Int.natAbs hV
    rw [Int.natAbs_mul, Int.natAbs_mul, Int.natAbs_natCast, Int.natAbs_natCast] at this
    rw [Nat.one_mul]; exact this)
  refine ⟨hk, _, c', q', v.trans w1, ?_⟩
  rw [w2]
  have hP : (0 : Int) < ((2 ^ (min q r + 1074).toNat : Nat) : Int) := by exact Int.natCast_pos.mpr (Nat.two_pow_pos _)
  have hP' : (0 : Int) < ((2 ^ (1074 - k) : Nat) : Int) := by exact Int.natCast_pos.mpr (Nat.two_pow_pos _)
  refine fp_put ?_ ?_ _
  · intro h
    have p1 := Int.mul_pos h hP'
    have p2 : 0 < V := by
      apply Int.lt_of_not_ge; intro z
      have := Int.mul_nonpos_of_nonpos_of_nonneg z (Int.le_of_lt hP); omega
    unfold sumSign; rw [if_neg (by omega)]; exact decide_eq_false (by omega)
  · intro h
    have p1 := Int.mul_neg_of_neg_of_pos h hP'
    have p2 : V < 0 := by
      apply Int.lt_of_not_ge; intro z
      have := Int.mul_nonneg z (Int.le_of_lt hP); omega
    unfold sumSign; rw [if_neg (by omega)]; exact decide_eq_true (by omega)
theorem DV.div {x y : UInt64} {t m : Int} {k : Nat} (hx : DV x (t * m) k) (hy : DV y m 0) (hm : 0 < m) (hb : t.natAbs < 2 ^ 53) : DV (ddiv x y) t k := by
  obtain ⟨hk, s, c, q, h1, h2⟩ := hx
  obtain ⟨-, u, d, r, g1, g2⟩ := hy
  obtain ⟨q1, q2⟩ := fp_q h1
  obtain ⟨r1, r2⟩ := fp_q g1
  have a1 := fp_abs h2
  have b1 := fp_abs g2
  have hd : d ≠ 0 := by
    intro z; subst z
    rw [Nat.zero_mul] at b1
    have := Nat.mul_pos (Int.natAbs_pos.mpr (Int.ne_of_gt hm)) (Nat.two_pow_pos (1074 - 0)); omega
  have v : val64 (ddiv x y) = roundRatio b64 (s != u) c d (q - r) := by
    rw [val64_ddiv, h1, g1]; show (if d = 0 then _ else _) = _; rw [if_neg hd]
  obtain ⟨c', q', w1, w2⟩ := fp_rr (s := (s != u)) (A := c) (B := d) (M := t.natAbs) (k := k) (E := 4000) (e := q - r) (Nat.pos_of_ne_zero hd) hb hk (by decide) (by omega) (by
    refine Nat.eq_of_mul_eq_mul_right (Nat.two_pow_pos (r + 1074).toNat) ?_
    have e1 : (q - r + (4000 : Nat)).toNat + (r + 1074).toNat = (q + 1074).toNat + 4000 := by omega
    have e2 : 1074 - 0 + (4000 - k) = 1074 - k + 4000 := by omega
    rw [Nat.mul_assoc, ← Nat.pow_add, e1, Nat.pow_add, ← Nat.mul_assoc, a1, Int.natAbs_mul]
    calc t.natAbs * m.natAbs * 2 ^ (1074 - k) * 2 ^ 4000 = t.natAbs * m.natAbs * (2 ^ (1074 - k) * 2 ^ 4000) := Nat.mul_assoc ..
      _ = t.natAbs * m.natAbs * 2 ^ (1074 - 0 + (4000 - k)) := by rw [← Nat.pow_add, e2]
      _ = (m.natAbs * 2 ^ (1074 - 0)) * (t.natAbs * 2 ^ (4000 - k)) := by rw [Nat.pow_add]; simp only [Nat.mul_comm, Nat.mul_left_comm, Nat.mul_assoc]
      _ = (d * 2 ^ (r + 1074).toNat) * (t.natAbs * 2 ^ (4000 - k)) := by rw [b1]
      _ = _ := by simp only [Nat.mul_comm, Nat.mul_left_comm, Nat.mul_assoc])
  refine ⟨hk, _, c', q', v.trans w1, ?_⟩
  rw [w2]
  have sg := fp_sgn (Nat.two_pow_pos _) h2
  have ug := (fp_sgn (Nat.two_pow_pos _) g2).1 hm
  refine fp_put (fun h => ?_) (fun h => ?_) _
  · rw [sg.1 (Int.mul_pos h hm), ug]; rfl
  · rw [sg.2 (Int.mul_neg_of_neg_of_pos h hm), ug]; rfl
theorem DV.of_l2d {a : Int64} (h : Small53 a) : DV (l2d a) a.toInt 0 := by
  obtain ⟨c, q, e⟩ := l2d_shape a
  have z := DInt_zval (l2d_whole h)
  refine ⟨by decide, _, c, q, e, ?_⟩
  rw [e] at z
  have : (q + 1074).toNat = (q - b64.qmin).toNat := by rw [fp_qmin]; congr 1
  rw [this]
  exact z
theorem DV.zero (k : Nat) (hk : k ≤ 1074) : DV 0 0 k := ⟨hk, false, 0, b64.qmin, val64_zero, by rw [Nat.zero_mul, Int.zero_mul]; rfl⟩
theorem DV.cmp {x y : UInt64} {n m : Int} {k : Nat} (hx : DV x n k) (hy : DV y m k) (h : n = m) : dcmp x y = some .eq := by
  obtain ⟨hk, s, c, q, h1, h2⟩ := hx
  obtain ⟨-, t, d, r, g1, g2⟩ := hy
  subst h
  have z : ∀ {x : UInt64} {s c q}, val64 x = .fin s c q → zval b64 (val64 x) = signed s (c * 2 ^ (q + 1074).toNat) := fun e => by
    rw [e]; show signed _ (_ * 2 ^ (_ - b64.qmin).toNat) = _; rw [fp_qmin]; congr 3
  rw [dcmp_zval (by rw [h1]; exact fun q => nomatch q) (by rw [g1]; exact fun q => nomatch q), z h1, z g1, h2, g2]
  exact congrArg some ((compare_eq_iff _ _).mpr rfl)
theorem DV.z {x : UInt64} {k : Nat} (h : DV x 0 k) (k' : Nat) (hk : k' ≤ 1074) : DV x 0 k' := by
  obtain ⟨-, s, c, q, h1, h2⟩ := h
  exact ⟨hk, s, c, q, h1, by rw [h2, Int.zero_mul, Int.zero_mul]⟩
theorem DV.nn {x : UInt64} {n : Int} {k : Nat} (h : DV x n k) : Jvm.Free.Fl.NoNaN64 x := by
  obtain ⟨-, s, c, q, h1, -⟩ := h
  exact Jvm.Free.Fl.val64_no.mpr (by rw [h1]; exact fun q => nomatch q)
theorem DV.c4 : DV 4616189618054758400 4 0 := ⟨by decide, false, 2 ^ 52, -50, by decide +kernel, by decide +kernel⟩
theorem DV.c256 : DV 4643211215818981376 256 0 := ⟨by decide, false, 2 ^ 52, -44, by decide +kernel, by decide +kernel⟩
end Jvm.Own

namespace Jvm.Pilot.@@N@@
open Jvm Jvm.ClassFile Sem Op Lib Jvm.Free Jvm.Stand Jvm.LawKit Jvm.RoadKit Bundle Jvm.Own Jvm.Pilot.@@N@@.Jvm.D
theorem pn_com_example_junctura_junctura_model_PolynomialCost : plainName "com/example/junctura/junctura/model/PolynomialCost" = true := by first | (simp [plainName, overriddenIn]; done) | decide +kernel
theorem d1_0 : decode prog_34_method_1_code 0 = .ok (.aload_n 0, 1) := by decide +kernel
theorem d1_1 : decode prog_34_method_1_code 1 = .ok (.invokespecial 1, 3) := by decide +kernel
theorem d1_4 : decode prog_34_method_1_code 4 = .ok (.aload_n 1, 1) := by decide +kernel
theorem d1_5 : decode prog_34_method_1_code 5 = .ok (.arraylength, 1) := by decide +kernel
theorem d1_6 : decode prog_34_method_1_code 6 = .ok (.ifCond .ne 13, 3) := by decide +kernel
theorem d1_19 : decode prog_34_method_1_code 19 = .ok (.iconst 0, 1) := by decide +kernel
theorem d1_20 : decode prog_34_method_1_code 20 = .ok (.istore_n 2, 1) := by decide +kernel
theorem d1_21 : decode prog_34_method_1_code 21 = .ok (.iload_n 2, 1) := by decide +kernel
theorem d1_22 : decode prog_34_method_1_code 22 = .ok (.aload_n 1, 1) := by decide +kernel
theorem d1_23 : decode prog_34_method_1_code 23 = .ok (.arraylength, 1) := by decide +kernel
theorem d1_24 : decode prog_34_method_1_code 24 = .ok (.if_icmp .ge 44, 3) := by decide +kernel
theorem d1_27 : decode prog_34_method_1_code 27 = .ok (.aload_n 1, 1) := by decide +kernel
theorem d1_28 : decode prog_34_method_1_code 28 = .ok (.iload_n 2, 1) := by decide +kernel
theorem d1_29 : decode prog_34_method_1_code 29 = .ok (.daload, 1) := by decide +kernel
theorem d1_30 : decode prog_34_method_1_code 30 = .ok (.dconst 0, 1) := by decide +kernel
theorem d1_31 : decode prog_34_method_1_code 31 = .ok (.dcmp .l, 1) := by decide +kernel
theorem d1_32 : decode prog_34_method_1_code 32 = .ok (.ifCond .lt 13, 3) := by decide +kernel
theorem d1_35 : decode prog_34_method_1_code 35 = .ok (.aload_n 1, 1) := by decide +kernel
theorem d1_36 : decode prog_34_method_1_code 36 = .ok (.iload_n 2, 1) := by decide +kernel
theorem d1_37 : decode prog_34_method_1_code 37 = .ok (.daload, 1) := by decide +kernel
theorem d1_38 : decode prog_34_method_1_code 38 = .ok (.ldc2_w 16, 3) := by decide +kernel
theorem d1_41 : decode prog_34_method_1_code 41 = .ok (.dcmp .g, 1) := by decide +kernel
theorem d1_42 : decode prog_34_method_1_code 42 = .ok (.ifCond .lt 20, 3) := by decide +kernel
theorem d1_62 : decode prog_34_method_1_code 62 = .ok (.iinc 2 1, 3) := by decide +kernel
theorem d1_65 : decode prog_34_method_1_code 65 = .ok (.goto (-44), 3) := by decide +kernel
theorem d1_68 : decode prog_34_method_1_code 68 = .ok (.aload_n 0, 1) := by decide +kernel
theorem d1_69 : decode prog_34_method_1_code 69 = .ok (.aload_n 1, 1) := by decide +kernel
theorem d1_70 : decode prog_34_method_1_code 70 = .ok (.invokevirtual 22, 3) := by decide +kernel
theorem d1_73 : decode prog_34_method_1_code 73 = .ok (.checkcast 23, 3) := by decide +kernel
theorem d1_76 : decode prog_34_method_1_code 76 = .ok (.putfield 28, 3) := by decide +kernel
theorem d1_79 : decode prog_34_method_1_code 79 = .ok (.return_, 1) := by decide +kernel
theorem d3_0 : decode prog_34_method_5_code 0 = .ok (.dconst 0, 1) := by decide +kernel
theorem d3_1 : decode prog_34_method_5_code 1 = .ok (.dstore_n 3, 1) := by decide +kernel
theorem d3_2 : decode prog_34_method_5_code 2 = .ok (.aload_n 0, 1) := by decide +kernel
theorem d3_3 : decode prog_34_method_5_code 3 = .ok (.getfield 28, 3) := by decide +kernel
theorem d3_6 : decode prog_34_method_5_code 6 = .ok (.arraylength, 1) := by decide +kernel
theorem d3_7 : decode prog_34_method_5_code 7 = .ok (.iconst 1, 1) := by decide +kernel
theorem d3_8 : decode prog_34_method_5_code 8 = .ok (.isub, 1) := by decide +kernel
theorem d3_9 : decode prog_34_method_5_code 9 = .ok (.istore 5, 2) := by decide +kernel
theorem d3_11 : decode prog_34_method_5_code 11 = .ok (.iload 5, 2) := by decide +kernel
theorem d3_13 : decode prog_34_method_5_code 13 = .ok (.ifCond .lt 27, 3) := by decide +kernel
theorem d3_16 : decode prog_34_method_5_code 16 = .ok (.dload_n 3, 1) := by decide +kernel
theorem d3_17 : decode prog_34_method_5_code 17 = .ok (.dload_n 1, 1) := by decide +kernel
theorem d3_18 : decode prog_34_method_5_code 18 = .ok (.dmul, 1) := by decide +kernel
theorem d3_19 : decode prog_34_method_5_code 19 = .ok (.aload_n 0, 1) := by decide +kernel
theorem d3_20 : decode prog_34_method_5_code 20 = .ok (.getfield 28, 3) := by decide +kernel
theorem d3_23 : decode prog_34_method_5_code 23 = .ok (.iload 5, 2) := by decide +kernel
theorem d3_25 : decode prog_34_method_5_code 25 = .ok (.daload, 1) := by decide +kernel
theorem d3_26 : decode prog_34_method_5_code 26 = .ok (.iload 5, 2) := by decide +kernel
theorem d3_28 : decode prog_34_method_5_code 28 = .ok (.iconst 1, 1) := by decide +kernel
theorem d3_29 : decode prog_34_method_5_code 29 = .ok (.iadd, 1) := by decide +kernel
theorem d3_30 : decode prog_34_method_5_code 30 = .ok (.i2d, 1) := by decide +kernel
theorem d3_31 : decode prog_34_method_5_code 31 = .ok (.ddiv, 1) := by decide +kernel
theorem d3_32 : decode prog_34_method_5_code 32 = .ok (.dadd, 1) := by decide +kernel
theorem d3_33 : decode prog_34_method_5_code 33 = .ok (.dstore_n 3, 1) := by decide +kernel
theorem d3_34 : decode prog_34_method_5_code 34 = .ok (.iinc 5 (-1), 3) := by decide +kernel
theorem d3_37 : decode prog_34_method_5_code 37 = .ok (.goto (-26), 3) := by decide +kernel
theorem d3_40 : decode prog_34_method_5_code 40 = .ok (.dload_n 3, 1) := by decide +kernel
theorem d3_41 : decode prog_34_method_5_code 41 = .ok (.dload_n 1, 1) := by decide +kernel
theorem d3_42 : decode prog_34_method_5_code 42 = .ok (.dmul, 1) := by decide +kernel
theorem d3_43 : decode prog_34_method_5_code 43 = .ok (.dreturn, 1) := by decide +kernel
theorem pn_com_example_junctura_junctura_model_PolynomialCostIntegralPinLaw : plainName "com/example/junctura/junctura/model/PolynomialCostIntegralPinLaw" = true := by first | (simp [plainName, overriddenIn]; done) | decide +kernel
theorem pd___D_V : parseMethodDescriptor "([D)V" = some ⟨[(.array .double)], none⟩ := by decide +kernel
theorem pd__D_D : parseMethodDescriptor "(D)D" = some ⟨[.double], some .double⟩ := by decide +kernel
theorem own_and3 (x : Int32) : x &&& 3 = 0 ∨ x &&& 3 = 1 ∨ x &&& 3 = 2 ∨ x &&& 3 = 3 := by
  have h : (x &&& 3).toBitVec.toNat < 4 := by
    simp only [Int32.toBitVec_and, BitVec.toNat_and]
    exact Nat.lt_succ_of_le Nat.and_le_right
  have e : (x &&& 3) = Int32.ofNat (x &&& 3).toBitVec.toNat := by
    apply Int32.toBitVec_inj.mp
    show _ = BitVec.ofNat 32 _
    rw [BitVec.ofNat_toNat]; simp
  rw [e]; generalize (x &&& 3).toBitVec.toNat = k at h
  exact (by decide : ∀ k, k < 4 → Int32.ofNat k = 0 ∨ Int32.ofNat k = 1 ∨ Int32.ofNat k = 2 ∨ Int32.ofNat k = 3) k h
theorem own_nat (x : Int32) : ∃ k : Nat, k < 256 ∧ x &&& 255 = Int32.ofNat k := by
  have h : (x &&& 255).toBitVec.toNat < 256 := by
    simp only [Int32.toBitVec_and, BitVec.toNat_and]
    exact Nat.lt_succ_of_le Nat.and_le_right
  refine ⟨_, h, ?_⟩
  apply Int32.toBitVec_inj.mp
  show _ = BitVec.ofNat 32 _
  rw [BitVec.ofNat_toNat]; simp
theorem own_shift (x : Int32) : ((x <<< ((20 : Int32) &&& 31)) >>> ((20 : Int32) &&& 31)).toInt.natAbs ≤ 2048 := by
  generalize x <<< ((20 : Int32) &&& 31) = y
  have e : (y >>> ((20 : Int32) &&& 31)).toInt = y.toInt / 1048576 := by
    show (y >>> ((20 : Int32) &&& 31)).toBitVec.toInt = y.toBitVec.toInt / 1048576
    rw [Int32.toBitVec_shiftRight]
    have : ((20 : Int32) &&& 31).toBitVec.smod 32 = 20#32 := by decide
    rw [this, BitVec.sshiftRight_eq', BitVec.toInt_sshiftRight, Int.shiftRight_eq_div_pow]
    rfl
  have h1 := Int32.le_toInt y
  have h2 := Int32.toInt_lt y
  rw [e]; omega
theorem own_i64 (m : Int32) : m.toInt64.toInt = m.toInt := Int32.toInt_toInt64 m
theorem own_quarter (m : Int32) (bm : m.toInt.natAbs ≤ 2048) : DV (FP.ddiv (FP.l2d m.toInt64) 4616189618054758400) m.toInt 2 := by
  have h : DV (FP.l2d m.toInt64) m.toInt 0 := own_i64 m ▸ DV.of_l2d (a := m.toInt64) ⟨by rw [own_i64]; omega, by rw [own_i64]; omega⟩
  have h2 := h.scale 2 (by decide)
  exact DV.div (k := 2) (m := 4) h2 DV.c4 (by decide) (by omega)
theorem own_256 (nu : Int64) (h : nu.toInt.natAbs < 2 ^ 53) : DV (FP.ddiv (FP.l2d nu) 4643211215818981376) nu.toInt 8 := by
  have h1 : DV (FP.l2d nu) nu.toInt 0 := DV.of_l2d (a := nu) ⟨by omega, by omega⟩
  have h2 := h1.scale 8 (by decide)
  exact DV.div (k := 8) (m := 256) h2 DV.c256 (by decide) h
/-- a long that is 0 to 255 -/
def own_E (e : Int64) (n : Int) : Prop := e.toInt = n ∧ 0 ≤ n ∧ n ≤ 255
theorem own_e (x : Int32) : own_E (x &&& 255).toInt64 (x &&& 255).toInt := by
  obtain ⟨k, hk, e⟩ := own_nat x
  refine ⟨own_i64 _, ?_, ?_⟩ <;> rw [e, Int32.toInt_ofNat_of_lt (by omega)] <;> omega
theorem own_e0 : own_E (0 : Int64) 0 := ⟨rfl, by decide, by decide⟩
theorem own_b53 {a : Int64} (h1 : 0 ≤ a.toInt) (h2 : a.toInt ≤ 1020) : B53 a := ⟨by omega, by omega⟩
theorem own_coefs {a : Int64} {E : Int} {c : Int} (he : 0 ≤ E ∧ E ≤ 255) (h : a.toInt = E * c) (h1 : 0 ≤ a.toInt) (h2 : a.toInt ≤ 1020) : DV (FP.l2d a) (E * c) 0 ∧ E.natAbs ≤ 255 ∧ ¬ cmpValue (FP.dcmp (FP.l2d a) 0) .l < 0 ∧ cmpValue (FP.dcmp (FP.l2d a) 9218868437227405312) .g < 0 := by
  have hb : B53 a := own_b53 h1 h2
  refine ⟨h ▸ DV.of_l2d (a := a) hb, by omega, ?_, ?_⟩
  · have z : FP.l2d 0 = 0 := l2d_zero
    have q := dcmpV_w hb (show B53 0 from ⟨by decide, by decide⟩) .l
    rw [z] at q
    rw [q]
    unfold lcmpW
    have : ¬ a < 0 := by rw [Int64.lt_iff_toInt_lt]; have : (0 : Int64).toInt = 0 := rfl; omega
    by_cases c1 : a > 0
    · simp [c1]
    · have : a = 0 := by apply Int64.toInt_inj.mp; have e0 : (0 : Int64).toInt = 0 := rfl; have c2 : ¬ (0 : Int64) < a := c1; rw [Int64.lt_iff_toInt_lt] at c2; omega
      simp [this]
  · rw [dcmp_pinf (Jvm.Free.Fl.l2d_fin a)]; decide
theorem own_mulc (x : Int32) (c : Int64) (hc : 0 ≤ c.toInt ∧ c.toInt ≤ 4) : (c * (x &&& 255).toInt64).toInt = (x &&& 255).toInt * c.toInt ∧ 0 ≤ (c * (x &&& 255).toInt64).toInt ∧ (c * (x &&& 255).toInt64).toInt ≤ 1020 := by
  obtain ⟨e1, e2, e3⟩ := own_e x
  have b1 : 0 ≤ c.toInt * (x &&& 255).toInt := Int.mul_nonneg hc.1 e2
  have b2 : c.toInt * (x &&& 255).toInt ≤ 4 * 255 := Int.mul_le_mul hc.2 e3 e2 (by decide)
  have q : (c * (x &&& 255).toInt64).toInt = c.toInt * (x &&& 255).toInt := by
    rw [FP.Core.int64_mul (by rw [e1]; omega) (by rw [e1]; omega), e1]
  rw [q, Int.mul_comm]
  rw [Int.mul_comm] at b1 b2
  exact ⟨rfl, b1, b2⟩
theorem own_coef0 (x : Int32) : DV (FP.l2d (x &&& 255).toInt64) ((x &&& 255).toInt * 1) 0 ∧ (x &&& 255).toInt.natAbs ≤ 255 ∧ ¬ cmpValue (FP.dcmp (FP.l2d (x &&& 255).toInt64) 0) .l < 0 ∧ cmpValue (FP.dcmp (FP.l2d (x &&& 255).toInt64) 9218868437227405312) .g < 0 := by
  obtain ⟨e1, e2, e3⟩ := own_e x
  exact own_coefs ⟨e2, e3⟩ (by rw [e1, Int.mul_one]) (by rw [e1]; exact e2) (by rw [e1]; omega)
theorem own_coef1 (x : Int32) : DV (FP.l2d (2 * (x &&& 255).toInt64)) ((x &&& 255).toInt * 2) 0 ∧ (x &&& 255).toInt.natAbs ≤ 255 ∧ ¬ cmpValue (FP.dcmp (FP.l2d (2 * (x &&& 255).toInt64)) 0) .l < 0 ∧ cmpValue (FP.dcmp (FP.l2d (2 * (x &&& 255).toInt64)) 9218868437227405312) .g < 0 := by
  obtain ⟨m1, m2, m3⟩ := own_mulc x 2 (by decide)
  obtain ⟨e1, e2, e3⟩ := own_e x
  exact own_coefs ⟨e2, e3⟩ m1 m2 m3
theorem own_coef2 (x : Int32) : DV (FP.l2d (3 * (x &&& 255).toInt64)) ((x &&& 255).toInt * 3) 0 ∧ (x &&& 255).toInt.natAbs ≤ 255 ∧ ¬ cmpValue (FP.dcmp (FP.l2d (3 * (x &&& 255).toInt64)) 0) .l < 0 ∧ cmpValue (FP.dcmp (FP.l2d (3 * (x &&& 255).toInt64)) 9218868437227405312) .g < 0 := by
  obtain ⟨m1, m2, m3⟩ := own_mulc x 3 (by decide)
  obtain ⟨e1, e2, e3⟩ := own_e x
  exact own_coefs ⟨e2, e3⟩ m1 m2 m3
theorem own_coef3 (x : Int32) : DV (FP.l2d (4 * (x &&& 255).toInt64)) ((x &&& 255).toInt * 4) 0 ∧ (x &&& 255).toInt.natAbs ≤ 255 ∧ ¬ cmpValue (FP.dcmp (FP.l2d (4 * (x &&& 255).toInt64)) 0) .l < 0 ∧ cmpValue (FP.dcmp (FP.l2d (4 * (x &&& 255).toInt64)) 9218868437227405312) .g < 0 := by
  obtain ⟨m1, m2, m3⟩ := own_mulc x 4 (by decide)
  obtain ⟨e1, e2, e3⟩ := own_e x
  exact own_coefs ⟨e2, e3⟩ m1 m2 m3
/-- a long whose value is n, and n within B -/
def own_I (a : Int64) (n : Int) (B : Nat) : Prop := a.toInt = n ∧ n.natAbs ≤ B
theorem own_I.mul {a b : Int64} {n m : Int} {B C : Nat} (h : own_I a n B) (g : own_I b m C) (hB : B * C < 9223372036854775808) : own_I (a * b) (n * m) (B * C) := by
  have q : (n * m).natAbs ≤ B * C := by rw [Int.natAbs_mul]; exact Nat.mul_le_mul h.2 g.2
  exact ⟨by rw [FP.Core.int64_mul (by rw [h.1, g.1]; omega) (by rw [h.1, g.1]; omega), h.1, g.1], q⟩
theorem own_I.add {a b : Int64} {n m : Int} {B C : Nat} (h : own_I a n B) (g : own_I b m C) (hB : B + C < 9223372036854775808) : own_I (a + b) (n + m) (B + C) := by
  have q : (n + m).natAbs ≤ B + C := Nat.le_trans (Int.natAbs_add_le _ _) (Nat.add_le_add h.2 g.2)
  exact ⟨by rw [FP.Core.int64_add (by rw [h.1, g.1]; omega) (by rw [h.1, g.1]; omega), h.1, g.1], q⟩
theorem own_num (m : Int32) (bm : m.toInt.natAbs ≤ 2048) {e0 e1 e2 e3 : Int64} {n0 n1 n2 n3 : Int} (h0 : own_E e0 n0) (h1 : own_E e1 n1) (h2 : own_E e2 n2) (h3 : own_E e3 n3) :
    (((((e0 * m.toInt64) * 64) + (((e1 * m.toInt64) * m.toInt64) * 16)) + ((((e2 * m.toInt64) * m.toInt64) * m.toInt64) * 4)) + ((((e3 * m.toInt64) * m.toInt64) * m.toInt64) * m.toInt64)).toInt.natAbs < 2 ^ 53 ∧
    (((((e0 * m.toInt64) * 64) + (((e1 * m.toInt64) * m.toInt64) * 16)) + ((((e2 * m.toInt64) * m.toInt64) * m.toInt64) * 4)) + ((((e3 * m.toInt64) * m.toInt64) * m.toInt64) * m.toInt64)).toInt = n0 * m.toInt * 64 + n1 * m.toInt * m.toInt * 16 + n2 * m.toInt * m.toInt * m.toInt * 4 + n3 * m.toInt * m.toInt * m.toInt * m.toInt := by
  have M : own_I m.toInt64 m.toInt 2048 := ⟨own_i64 m, bm⟩
  have k : ∀ {e : Int64} {n : Int}, own_E e n → own_I e n 255 := fun h => ⟨h.1, by have := h.2; omega⟩
  have t0 := ((k h0).mul M (by decide)).mul (show own_I (64 : Int64) 64 64 from ⟨rfl, by decide⟩) (by decide)
  have t1 := (((k h1).mul M (by decide)).mul M (by decide)).mul (show own_I (16 : Int64) 16 16 from ⟨rfl, by decide⟩) (by decide)
  have t2 := ((((k h2).mul M (by decide)).mul M (by decide)).mul M (by decide)).mul (show own_I (4 : Int64) 4 4 from ⟨rfl, by decide⟩) (by decide)
  have t3 := ((((k h3).mul M (by decide)).mul M (by decide)).mul M (by decide)).mul M (by decide)
  have t := ((t0.add t1 (by decide)).add t2 (by decide)).add t3 (by decide)
  exact ⟨by rw [t.1]; exact Nat.lt_of_le_of_lt t.2 (by decide), t.1⟩
theorem own_sz1 {h1 h2 : Heap} {a : Addr} {s : Nat} {v : Value} (W : Wr h1 h2 a s v) : h1.size ≤ h2.size := Nat.le_of_eq W.size.symm
theorem own_sz2 {h1 h2 h3 : Heap} {a : Addr} {s s' : Nat} {v v' : Value} (W : Wr h1 h2 a s v) (W' : Wr h2 h3 a s' v') : h1.size ≤ h3.size := Nat.le_trans (own_sz1 W) (own_sz1 W')
theorem own_sz3 {h1 h2 h3 h4 : Heap} {a : Addr} {s s' s'' : Nat} {v v' v'' : Value} (W : Wr h1 h2 a s v) (W' : Wr h2 h3 a s' v') (W'' : Wr h3 h4 a s'' v'') : h1.size ≤ h4.size := Nat.le_trans (own_sz2 W W') (own_sz1 W'')
theorem own_sz4 {h1 h2 h3 h4 h5 : Heap} {a : Addr} {s s' s'' s3 : Nat} {v v' v'' v3 : Value} (W : Wr h1 h2 a s v) (W' : Wr h2 h3 a s' v') (W'' : Wr h3 h4 a s'' v'') (W3 : Wr h4 h5 a s3 v3) : h1.size ≤ h5.size := Nat.le_trans (own_sz3 W W' W'') (own_sz1 W3)
set_option maxRecDepth 65536 in
set_option maxHeartbeats 40000000 in
theorem rm_pc1 (l : Launch) (Z : State) (a0 : Array Value) (hw : ∀ d ∈ tables_1, d.before a0 Z = true) (a1 t : Addr) (kD : ClassId) (c0 : Value) (b0 : UInt64) (h0 : Heap) (n0 : Nat) (na : n0 ≤ a1) (E : Exa Z h0 a1 "com/example/junctura/junctura/model/PolynomialCost") (Fo : Fld Z h0 a1 "com/example/junctura/junctura/model/PolynomialCost" "coefficients" "[D" c0) (V : Arv Z h0 t kD .double (1 : Int32) [.double b0] (.double 0)) (Et : Exa Z h0 t "[D") (P0 : ¬ cmpValue (FP.dcmp b0 0) .l < 0) (R0 : cmpValue (FP.dcmp b0 9218868437227405312) .g < 0) :
    Ct l Z (⟨"com/example/junctura/junctura/model/PolynomialCost", "<init>", "([D)V"⟩ : MethodName) prog_34_method_1_code 3 none [] ({ frames := 1, cells := 1, slots := 4, locals := 15 } : Room) #[.ref a1, .ref t] h0 n0 (fun v h => v = none ∧ Keep h0 h [a1] ∧ Exa Z h a1 "com/example/junctura/junctura/model/PolynomialCost" ∧ ∃ t', Fld Z h a1 "com/example/junctura/junctura/model/PolynomialCost" "coefficients" "[D" (.ref t') ∧ Arv Z h t' kD .double (1 : Int32) [.double b0] (.double 0)) := by
  refine Ct.of (L0 := #[.val (.ref a1), .val (.ref t), .unset]) (plainFor_of_name pn_com_example_junctura_junctura_model_PolynomialCost) (fun m => by first | (simp [entryFrame, mkF, argsToLocals, Value.category]; done) | rfl) ?_
  intro p e s m below meth c C hnm
  refine Go.aloadN C d1_0 rfl rfl (pc' := 1) rfl ?_
  refine Go.initO C d1_1 (hw _ (List.mem_of_getElem? (i := 8) rfl)) (hw _ (List.mem_of_getElem? (i := 9) rfl)) (hw _ (List.mem_of_getElem? (i := 10) rfl)) rfl (by decide) (by decide) (pc' := 4) rfl ?_
  refine Go.aloadN C d1_4 rfl rfl (pc' := 5) rfl ?_
  refine Go.arraylengthV C d1_5 V (pc' := 6) rfl ?_
  refine Go.if_ne_t C d1_6 (by decide) (by decide) (pc' := 19) (by decide) ?_
  refine Go.iconst C d1_19 (v := 0) rfl (pc' := 20) rfl ?_
  refine Go.istoreN C d1_20 (L' := #[.val (.ref a1), .val (.ref t), .val (.int (0 : Int32))]) rfl (pc' := 21) rfl ?_
  refine Go.iloadN C d1_21 rfl (pc' := 22) rfl ?_
  refine Go.aloadN C d1_22 rfl rfl (pc' := 23) rfl ?_
  refine Go.arraylengthV C d1_23 V (pc' := 24) rfl ?_
  refine Go.icmp_ge_f C d1_24 (by decide) (pc' := 27) rfl ?_
  refine Go.aloadN C d1_27 rfl rfl (pc' := 28) rfl ?_
  refine Go.iloadN C d1_28 rfl (pc' := 29) rfl ?_
  refine Go.daloadV C d1_29 V (by decide) (by decide) (v := .double b0) rfl (pc' := 30) rfl ?_
  refine Go.dconst0 C d1_30 (v := 0) rfl (pc' := 31) rfl ?_
  refine Go.dcmp C d1_31 (v := cmpValue (FP.dcmp b0 0) .l) rfl (pc' := 32) rfl ?_
  refine Go.if_lt_f C d1_32 P0 (pc' := 35) rfl ?_
  refine Go.aloadN C d1_35 rfl rfl (pc' := 36) rfl ?_
  refine Go.iloadN C d1_36 rfl (pc' := 37) rfl ?_
  refine Go.daloadV C d1_37 V (by decide) (by decide) (v := .double b0) rfl (pc' := 38) rfl ?_
  refine Go.ldc2Double C d1_38 (hw _ (List.mem_of_getElem? (i := 11) rfl)) (pc' := 41) rfl ?_
  refine Go.dcmp C d1_41 (v := cmpValue (FP.dcmp b0 9218868437227405312) .g) rfl (pc' := 42) rfl ?_
  refine Go.if_lt_t C d1_42 R0 (by decide) (pc' := 62) (by decide) ?_
  refine Go.iinc C d1_62 rfl (y := (1 : Int32)) rfl (L' := #[.val (.ref a1), .val (.ref t), .val (.int (1 : Int32))]) rfl (pc' := 65) rfl ?_
  refine Go.goto C d1_65 (by decide) (pc' := 21) (by decide) ?_
  refine Go.iloadN C d1_21 rfl (pc' := 22) rfl ?_
  refine Go.aloadN C d1_22 rfl rfl (pc' := 23) rfl ?_
  refine Go.arraylengthV C d1_23 V (pc' := 24) rfl ?_
  refine Go.icmp_ge_t C d1_24 (by decide) (by decide) (pc' := 68) (by decide) ?_
  refine Go.aloadN C d1_68 rfl rfl (pc' := 69) rfl ?_
  refine Go.aloadN C d1_69 rfl rfl (pc' := 70) rfl ?_
  refine Go.cloneV C bnE d1_70 (hw _ (List.mem_of_getElem? (i := 12) rfl)) (hw _ (List.mem_of_getElem? (i := 13) rfl)) (hw _ (List.mem_of_getElem? (i := 17) rfl)) (hw _ (List.mem_of_getElem? (i := 15) rfl)) (hw _ (List.mem_of_getElem? (i := 16) rfl)) (hw _ (List.mem_of_getElem? (i := 18) rfl)) V Et rfl (by decide) (Nat.le_of_ble_eq_true rfl) (cap := 4) (by decide) (by decide) (by decide) (pc' := 73) rfl ?_
  intro h1 E1 V1 A1
  obtain ⟨t', e_t'⟩ : ∃ a, a = h0.size := ⟨_, rfl⟩
  rw [← e_t'] at V1 A1 ⊢
  refine Go.castY C d1_73 (hw _ (List.mem_of_getElem? (i := 19) rfl)) (Ins.self A1) (pc' := 76) rfl ?_
  refine Go.putF C d1_76 (hw _ (List.mem_of_getElem? (i := 21) rfl)) Via.refl (Fo.ext E1) (E.ext E1) (Or.inr ⟨(hw _ (List.mem_of_getElem? (i := 22) rfl)), rfl, hnm⟩) (hw _ (List.mem_of_getElem? (i := 3) rfl)) (ty := (.array .double)) (by decide) rfl rfl na (fun _ _ _ q => q) (pc' := 79) rfl ?_
  intro h2 W2
  refine Go.retV C d1_79 (by decide) (by decide) ?_
  exact ⟨rfl, ((Keep.refl _ _).ext E1).wr W2 (Or.inl (List.mem_singleton.mpr rfl)), (E.ext E1).wr W2, t', (Fo.ext E1).same W2, V1.other W2 (Ne.symm (Nat.ne_of_lt (e_t' ▸ E.lt)))⟩
set_option maxRecDepth 65536 in
set_option maxHeartbeats 40000000 in
theorem rm_pc2 (l : Launch) (Z : State) (a0 : Array Value) (hw : ∀ d ∈ tables_1, d.before a0 Z = true) (a1 t : Addr) (kD : ClassId) (c0 : Value) (b0 b1 : UInt64) (h0 : Heap) (n0 : Nat) (na : n0 ≤ a1) (E : Exa Z h0 a1 "com/example/junctura/junctura/model/PolynomialCost") (Fo : Fld Z h0 a1 "com/example/junctura/junctura/model/PolynomialCost" "coefficients" "[D" c0) (V : Arv Z h0 t kD .double (2 : Int32) [.double b0, .double b1] (.double 0)) (Et : Exa Z h0 t "[D") (P0 : ¬ cmpValue (FP.dcmp b0 0) .l < 0) (R0 : cmpValue (FP.dcmp b0 9218868437227405312) .g < 0) (P1 : ¬ cmpValue (FP.dcmp b1 0) .l < 0) (R1 : cmpValue (FP.dcmp b1 9218868437227405312) .g < 0) :
    Ct l Z (⟨"com/example/junctura/junctura/model/PolynomialCost", "<init>", "([D)V"⟩ : MethodName) prog_34_method_1_code 3 none [] ({ frames := 1, cells := 1, slots := 4, locals := 15 } : Room) #[.ref a1, .ref t] h0 n0 (fun v h => v = none ∧ Keep h0 h [a1] ∧ Exa Z h a1 "com/example/junctura/junctura/model/PolynomialCost" ∧ ∃ t', Fld Z h a1 "com/example/junctura/junctura/model/PolynomialCost" "coefficients" "[D" (.ref t') ∧ Arv Z h t' kD .double (2 : Int32) [.double b0, .double b1] (.double 0)) := by
  refine Ct.of (L0 := #[.val (.ref a1), .val (.ref t), .unset]) (plainFor_of_name pn_com_example_junctura_junctura_model_PolynomialCost) (fun m => by first | (simp [entryFrame, mkF, argsToLocals, Value.category]; done) | rfl) ?_
  intro p e s m below meth c C hnm
  refine Go.aloadN C d1_0 rfl rfl (pc' := 1) rfl ?_
  refine Go.initO C d1_1 (hw _ (List.mem_of_getElem? (i := 8) rfl)) (hw _ (List.mem_of_getElem? (i := 9) rfl)) (hw _ (List.mem_of_getElem? (i := 10) rfl)) rfl (by decide) (by decide) (pc' := 4) rfl ?_
  refine Go.aloadN C d1_4 rfl rfl (pc' := 5) rfl ?_
  refine Go.arraylengthV C d1_5 V (pc' := 6) rfl ?_
  refine Go.if_ne_t C d1_6 (by decide) (by decide) (pc' := 19) (by decide) ?_
  refine Go.iconst C d1_19 (v := 0) rfl (pc' := 20) rfl ?_
  refine Go.istoreN C d1_20 (L' := #[.val (.ref a1), .val (.ref t), .val (.int (0 : Int32))]) rfl (pc' := 21) rfl ?_
  refine Go.iloadN C d1_21 rfl (pc' := 22) rfl ?_
  refine Go.aloadN C d1_22 rfl rfl (pc' := 23) rfl ?_
  refine Go.arraylengthV C d1_23 V (pc' := 24) rfl ?_
  refine Go.icmp_ge_f C d1_24 (by decide) (pc' := 27) rfl ?_
  refine Go.aloadN C d1_27 rfl rfl (pc' := 28) rfl ?_
  refine Go.iloadN C d1_28 rfl (pc' := 29) rfl ?_
  refine Go.daloadV C d1_29 V (by decide) (by decide) (v := .double b0) rfl (pc' := 30) rfl ?_
  refine Go.dconst0 C d1_30 (v := 0) rfl (pc' := 31) rfl ?_
  refine Go.dcmp C d1_31 (v := cmpValue (FP.dcmp b0 0) .l) rfl (pc' := 32) rfl ?_
  refine Go.if_lt_f C d1_32 P0 (pc' := 35) rfl ?_
  refine Go.aloadN C d1_35 rfl rfl (pc' := 36) rfl ?_
  refine Go.iloadN C d1_36 rfl (pc' := 37) rfl ?_
  refine Go.daloadV C d1_37 V (by decide) (by decide) (v := .double b0) rfl (pc' := 38) rfl ?_
  refine Go.ldc2Double C d1_38 (hw _ (List.mem_of_getElem? (i := 11) rfl)) (pc' := 41) rfl ?_
  refine Go.dcmp C d1_41 (v := cmpValue (FP.dcmp b0 9218868437227405312) .g) rfl (pc' := 42) rfl ?_
  refine Go.if_lt_t C d1_42 R0 (by decide) (pc' := 62) (by decide) ?_
  refine Go.iinc C d1_62 rfl (y := (1 : Int32)) rfl (L' := #[.val (.ref a1), .val (.ref t), .val (.int (1 : Int32))]) rfl (pc' := 65) rfl ?_
  refine Go.goto C d1_65 (by decide) (pc' := 21) (by decide) ?_
  refine Go.iloadN C d1_21 rfl (pc' := 22) rfl ?_
  refine Go.aloadN C d1_22 rfl rfl (pc' := 23) rfl ?_
  refine Go.arraylengthV C d1_23 V (pc' := 24) rfl ?_
  refine Go.icmp_ge_f C d1_24 (by decide) (pc' := 27) rfl ?_
  refine Go.aloadN C d1_27 rfl rfl (pc' := 28) rfl ?_
  refine Go.iloadN C d1_28 rfl (pc' := 29) rfl ?_
  refine Go.daloadV C d1_29 V (by decide) (by decide) (v := .double b1) rfl (pc' := 30) rfl ?_
  refine Go.dconst0 C d1_30 (v := 0) rfl (pc' := 31) rfl ?_
  refine Go.dcmp C d1_31 (v := cmpValue (FP.dcmp b1 0) .l) rfl (pc' := 32) rfl ?_
  refine Go.if_lt_f C d1_32 P1 (pc' := 35) rfl ?_
  refine Go.aloadN C d1_35 rfl rfl (pc' := 36) rfl ?_
  refine Go.iloadN C d1_36 rfl (pc' := 37) rfl ?_
  refine Go.daloadV C d1_37 V (by decide) (by decide) (v := .double b1) rfl (pc' := 38) rfl ?_
  refine Go.ldc2Double C d1_38 (hw _ (List.mem_of_getElem? (i := 11) rfl)) (pc' := 41) rfl ?_
  refine Go.dcmp C d1_41 (v := cmpValue (FP.dcmp b1 9218868437227405312) .g) rfl (pc' := 42) rfl ?_
  refine Go.if_lt_t C d1_42 R1 (by decide) (pc' := 62) (by decide) ?_
  refine Go.iinc C d1_62 rfl (y := (2 : Int32)) rfl (L' := #[.val (.ref a1), .val (.ref t), .val (.int (2 : Int32))]) rfl (pc' := 65) rfl ?_
  refine Go.goto C d1_65 (by decide) (pc' := 21) (by decide) ?_
  refine Go.iloadN C d1_21 rfl (pc' := 22) rfl ?_
  refine Go.aloadN C d1_22 rfl rfl (pc' := 23) rfl ?_
  refine Go.arraylengthV C d1_23 V (pc' := 24) rfl ?_
  refine Go.icmp_ge_t C d1_24 (by decide) (by decide) (pc' := 68) (by decide) ?_
  refine Go.aloadN C d1_68 rfl rfl (pc' := 69) rfl ?_
  refine Go.aloadN C d1_69 rfl rfl (pc' := 70) rfl ?_
  refine Go.cloneV C bnE d1_70 (hw _ (List.mem_of_getElem? (i := 12) rfl)) (hw _ (List.mem_of_getElem? (i := 13) rfl)) (hw _ (List.mem_of_getElem? (i := 17) rfl)) (hw _ (List.mem_of_getElem? (i := 15) rfl)) (hw _ (List.mem_of_getElem? (i := 16) rfl)) (hw _ (List.mem_of_getElem? (i := 18) rfl)) V Et rfl (by decide) (Nat.le_of_ble_eq_true rfl) (cap := 4) (by decide) (by decide) (by decide) (pc' := 73) rfl ?_
  intro h1 E1 V1 A1
  obtain ⟨t', e_t'⟩ : ∃ a, a = h0.size := ⟨_, rfl⟩
  rw [← e_t'] at V1 A1 ⊢
  refine Go.castY C d1_73 (hw _ (List.mem_of_getElem? (i := 19) rfl)) (Ins.self A1) (pc' := 76) rfl ?_
  refine Go.putF C d1_76 (hw _ (List.mem_of_getElem? (i := 21) rfl)) Via.refl (Fo.ext E1) (E.ext E1) (Or.inr ⟨(hw _ (List.mem_of_getElem? (i := 22) rfl)), rfl, hnm⟩) (hw _ (List.mem_of_getElem? (i := 3) rfl)) (ty := (.array .double)) (by decide) rfl rfl na (fun _ _ _ q => q) (pc' := 79) rfl ?_
  intro h2 W2
  refine Go.retV C d1_79 (by decide) (by decide) ?_
  exact ⟨rfl, ((Keep.refl _ _).ext E1).wr W2 (Or.inl (List.mem_singleton.mpr rfl)), (E.ext E1).wr W2, t', (Fo.ext E1).same W2, V1.other W2 (Ne.symm (Nat.ne_of_lt (e_t' ▸ E.lt)))⟩
set_option maxRecDepth 65536 in
set_option maxHeartbeats 40000000 in
theorem rm_pc3 (l : Launch) (Z : State) (a0 : Array Value) (hw : ∀ d ∈ tables_1, d.before a0 Z = true) (a1 t : Addr) (kD : ClassId) (c0 : Value) (b0 b1 b2 : UInt64) (h0 : Heap) (n0 : Nat) (na : n0 ≤ a1) (E : Exa Z h0 a1 "com/example/junctura/junctura/model/PolynomialCost") (Fo : Fld Z h0 a1 "com/example/junctura/junctura/model/PolynomialCost" "coefficients" "[D" c0) (V : Arv Z h0 t kD .double (3 : Int32) [.double b0, .double b1, .double b2] (.double 0)) (Et : Exa Z h0 t "[D") (P0 : ¬ cmpValue (FP.dcmp b0 0) .l < 0) (R0 : cmpValue (FP.dcmp b0 9218868437227405312) .g < 0) (P1 : ¬ cmpValue (FP.dcmp b1 0) .l < 0) (R1 : cmpValue (FP.dcmp b1 9218868437227405312) .g < 0) (P2 : ¬ cmpValue (FP.dcmp b2 0) .l < 0) (R2 : cmpValue (FP.dcmp b2 9218868437227405312) .g < 0) :
    Ct l Z (⟨"com/example/junctura/junctura/model/PolynomialCost", "<init>", "([D)V"⟩ : MethodName) prog_34_method_1_code 3 none [] ({ frames := 1, cells := 1, slots := 4, locals := 15 } : Room) #[.ref a1, .ref t] h0 n0 (fun v h => v = none ∧ Keep h0 h [a1] ∧ Exa Z h a1 "com/example/junctura/junctura/model/PolynomialCost" ∧ ∃ t', Fld Z h a1 "com/example/junctura/junctura/model/PolynomialCost" "coefficients" "[D" (.ref t') ∧ Arv Z h t' kD .double (3 : Int32) [.double b0, .double b1, .double b2] (.double 0)) := by
  refine Ct.of (L0 := #[.val (.ref a1), .val (.ref t), .unset]) (plainFor_of_name pn_com_example_junctura_junctura_model_PolynomialCost) (fun m => by first | (simp [entryFrame, mkF, argsToLocals, Value.category]; done) | rfl) ?_
  intro p e s m below meth c C hnm
  refine Go.aloadN C d1_0 rfl rfl (pc' := 1) rfl ?_
  refine Go.initO C d1_1 (hw _ (List.mem_of_getElem? (i := 8) rfl)) (hw _ (List.mem_of_getElem? (i := 9) rfl)) (hw _ (List.mem_of_getElem? (i := 10) rfl)) rfl (by decide) (by decide) (pc' := 4) rfl ?_
  refine Go.aloadN C d1_4 rfl rfl (pc' := 5) rfl ?_
  refine Go.arraylengthV C d1_5 V (pc' := 6) rfl ?_
  refine Go.if_ne_t C d1_6 (by decide) (by decide) (pc' := 19) (by decide) ?_
  refine Go.iconst C d1_19 (v := 0) rfl (pc' := 20) rfl ?_
  refine Go.istoreN C d1_20 (L' := #[.val (.ref a1), .val (.ref t), .val (.int (0 : Int32))]) rfl (pc' := 21) rfl ?_
  refine Go.iloadN C d1_21 rfl (pc' := 22) rfl ?_
  refine Go.aloadN C d1_22 rfl rfl (pc' := 23) rfl ?_
  refine Go.arraylengthV C d1_23 V (pc' := 24) rfl ?_
  refine Go.icmp_ge_f C d1_24 (by decide) (pc' := 27) rfl ?_
  refine Go.aloadN C d1_27 rfl rfl (pc' := 28) rfl ?_
  refine Go.iloadN C d1_28 rfl (pc' := 29) rfl ?_
  refine Go.daloadV C d1_29 V (by decide) (by decide) (v := .double b0) rfl (pc' := 30) rfl ?_
  refine Go.dconst0 C d1_30 (v := 0) rfl (pc' := 31) rfl ?_
  refine Go.dcmp C d1_31 (v := cmpValue (FP.dcmp b0 0) .l) rfl (pc' := 32) rfl ?_
  refine Go.if_lt_f C d1_32 P0 (pc' := 35) rfl ?_
  refine Go.aloadN C d1_35 rfl rfl (pc' := 36) rfl ?_
  refine Go.iloadN C d1_36 rfl (pc' := 37) rfl ?_
  refine Go.daloadV C d1_37 V (by decide) (by decide) (v := .double b0) rfl (pc' := 38) rfl ?_
  refine Go.ldc2Double C d1_38 (hw _ (List.mem_of_getElem? (i := 11) rfl)) (pc' := 41) rfl ?_
  refine Go.dcmp C d1_41 (v := cmpValue (FP.dcmp b0 9218868437227405312) .g) rfl (pc' := 42) rfl ?_
  refine Go.if_lt_t C d1_42 R0 (by decide) (pc' := 62) (by decide) ?_
  refine Go.iinc C d1_62 rfl (y := (1 : Int32)) rfl (L' := #[.val (.ref a1), .val (.ref t), .val (.int (1 : Int32))]) rfl (pc' := 65) rfl ?_
  refine Go.goto C d1_65 (by decide) (pc' := 21) (by decide) ?_
  refine Go.iloadN C d1_21 rfl (pc' := 22) rfl ?_
  refine Go.aloadN C d1_22 rfl rfl (pc' := 23) rfl ?_
  refine Go.arraylengthV C d1_23 V (pc' := 24) rfl ?_
  refine Go.icmp_ge_f C d1_24 (by decide) (pc' := 27) rfl ?_
  refine Go.aloadN C d1_27 rfl rfl (pc' := 28) rfl ?_
  refine Go.iloadN C d1_28 rfl (pc' := 29) rfl ?_
  refine Go.daloadV C d1_29 V (by decide) (by decide) (v := .double b1) rfl (pc' := 30) rfl ?_
  refine Go.dconst0 C d1_30 (v := 0) rfl (pc' := 31) rfl ?_
  refine Go.dcmp C d1_31 (v := cmpValue (FP.dcmp b1 0) .l) rfl (pc' := 32) rfl ?_
  refine Go.if_lt_f C d1_32 P1 (pc' := 35) rfl ?_
  refine Go.aloadN C d1_35 rfl rfl (pc' := 36) rfl ?_
  refine Go.iloadN C d1_36 rfl (pc' := 37) rfl ?_
  refine Go.daloadV C d1_37 V (by decide) (by decide) (v := .double b1) rfl (pc' := 38) rfl ?_
  refine Go.ldc2Double C d1_38 (hw _ (List.mem_of_getElem? (i := 11) rfl)) (pc' := 41) rfl ?_
  refine Go.dcmp C d1_41 (v := cmpValue (FP.dcmp b1 9218868437227405312) .g) rfl (pc' := 42) rfl ?_
  refine Go.if_lt_t C d1_42 R1 (by decide) (pc' := 62) (by decide) ?_
  refine Go.iinc C d1_62 rfl (y := (2 : Int32)) rfl (L' := #[.val (.ref a1), .val (.ref t), .val (.int (2 : Int32))]) rfl (pc' := 65) rfl ?_
  refine Go.goto C d1_65 (by decide) (pc' := 21) (by decide) ?_
  refine Go.iloadN C d1_21 rfl (pc' := 22) rfl ?_
  refine Go.aloadN C d1_22 rfl rfl (pc' := 23) rfl ?_
  refine Go.arraylengthV C d1_23 V (pc' := 24) rfl ?_
  refine Go.icmp_ge_f C d1_24 (by decide) (pc' := 27) rfl ?_
  refine Go.aloadN C d1_27 rfl rfl (pc' := 28) rfl ?_
  refine Go.iloadN C d1_28 rfl (pc' := 29) rfl ?_
  refine Go.daloadV C d1_29 V (by decide) (by decide) (v := .double b2) rfl (pc' := 30) rfl ?_
  refine Go.dconst0 C d1_30 (v := 0) rfl (pc' := 31) rfl ?_
  refine Go.dcmp C d1_31 (v := cmpValue (FP.dcmp b2 0) .l) rfl (pc' := 32) rfl ?_
  refine Go.if_lt_f C d1_32 P2 (pc' := 35) rfl ?_
  refine Go.aloadN C d1_35 rfl rfl (pc' := 36) rfl ?_
  refine Go.iloadN C d1_36 rfl (pc' := 37) rfl ?_
  refine Go.daloadV C d1_37 V (by decide) (by decide) (v := .double b2) rfl (pc' := 38) rfl ?_
  refine Go.ldc2Double C d1_38 (hw _ (List.mem_of_getElem? (i := 11) rfl)) (pc' := 41) rfl ?_
  refine Go.dcmp C d1_41 (v := cmpValue (FP.dcmp b2 9218868437227405312) .g) rfl (pc' := 42) rfl ?_
  refine Go.if_lt_t C d1_42 R2 (by decide) (pc' := 62) (by decide) ?_
  refine Go.iinc C d1_62 rfl (y := (3 : Int32)) rfl (L' := #[.val (.ref a1), .val (.ref t), .val (.int (3 : Int32))]) rfl (pc' := 65) rfl ?_
  refine Go.goto C d1_65 (by decide) (pc' := 21) (by decide) ?_
  refine Go.iloadN C d1_21 rfl (pc' := 22) rfl ?_
  refine Go.aloadN C d1_22 rfl rfl (pc' := 23) rfl ?_
  refine Go.arraylengthV C d1_23 V (pc' := 24) rfl ?_
  refine Go.icmp_ge_t C d1_24 (by decide) (by decide) (pc' := 68) (by decide) ?_
  refine Go.aloadN C d1_68 rfl rfl (pc' := 69) rfl ?_
  refine Go.aloadN C d1_69 rfl rfl (pc' := 70) rfl ?_
  refine Go.cloneV C bnE d1_70 (hw _ (List.mem_of_getElem? (i := 12) rfl)) (hw _ (List.mem_of_getElem? (i := 13) rfl)) (hw _ (List.mem_of_getElem? (i := 17) rfl)) (hw _ (List.mem_of_getElem? (i := 15) rfl)) (hw _ (List.mem_of_getElem? (i := 16) rfl)) (hw _ (List.mem_of_getElem? (i := 18) rfl)) V Et rfl (by decide) (Nat.le_of_ble_eq_true rfl) (cap := 4) (by decide) (by decide) (by decide) (pc' := 73) rfl ?_
  intro h1 E1 V1 A1
  obtain ⟨t', e_t'⟩ : ∃ a, a = h0.size := ⟨_, rfl⟩
  rw [← e_t'] at V1 A1 ⊢
  refine Go.castY C d1_73 (hw _ (List.mem_of_getElem? (i := 19) rfl)) (Ins.self A1) (pc' := 76) rfl ?_
  refine Go.putF C d1_76 (hw _ (List.mem_of_getElem? (i := 21) rfl)) Via.refl (Fo.ext E1) (E.ext E1) (Or.inr ⟨(hw _ (List.mem_of_getElem? (i := 22) rfl)), rfl, hnm⟩) (hw _ (List.mem_of_getElem? (i := 3) rfl)) (ty := (.array .double)) (by decide) rfl rfl na (fun _ _ _ q => q) (pc' := 79) rfl ?_
  intro h2 W2
  refine Go.retV C d1_79 (by decide) (by decide) ?_
  exact ⟨rfl, ((Keep.refl _ _).ext E1).wr W2 (Or.inl (List.mem_singleton.mpr rfl)), (E.ext E1).wr W2, t', (Fo.ext E1).same W2, V1.other W2 (Ne.symm (Nat.ne_of_lt (e_t' ▸ E.lt)))⟩
set_option maxRecDepth 65536 in
set_option maxHeartbeats 40000000 in
theorem rm_pc4 (l : Launch) (Z : State) (a0 : Array Value) (hw : ∀ d ∈ tables_1, d.before a0 Z = true) (a1 t : Addr) (kD : ClassId) (c0 : Value) (b0 b1 b2 b3 : UInt64) (h0 : Heap) (n0 : Nat) (na : n0 ≤ a1) (E : Exa Z h0 a1 "com/example/junctura/junctura/model/PolynomialCost") (Fo : Fld Z h0 a1 "com/example/junctura/junctura/model/PolynomialCost" "coefficients" "[D" c0) (V : Arv Z h0 t kD .double (4 : Int32) [.double b0, .double b1, .double b2, .double b3] (.double 0)) (Et : Exa Z h0 t "[D") (P0 : ¬ cmpValue (FP.dcmp b0 0) .l < 0) (R0 : cmpValue (FP.dcmp b0 9218868437227405312) .g < 0) (P1 : ¬ cmpValue (FP.dcmp b1 0) .l < 0) (R1 : cmpValue (FP.dcmp b1 9218868437227405312) .g < 0) (P2 : ¬ cmpValue (FP.dcmp b2 0) .l < 0) (R2 : cmpValue (FP.dcmp b2 9218868437227405312) .g < 0) (P3 : ¬ cmpValue (FP.dcmp b3 0) .l < 0) (R3 : cmpValue (FP.dcmp b3 9218868437227405312) .g < 0) :
    Ct l Z (⟨"com/example/junctura/junctura/model/PolynomialCost", "<init>", "([D)V"⟩ : MethodName) prog_34_method_1_code 3 none [] ({ frames := 1, cells := 1, slots := 4, locals := 15 } : Room) #[.ref a1, .ref t] h0 n0 (fun v h => v = none ∧ Keep h0 h [a1] ∧ Exa Z h a1 "com/example/junctura/junctura/model/PolynomialCost" ∧ ∃ t', Fld Z h a1 "com/example/junctura/junctura/model/PolynomialCost" "coefficients" "[D" (.ref t') ∧ Arv Z h t' kD .double (4 : Int32) [.double b0, .double b1, .double b2, .double b3] (.double 0)) := by
  refine Ct.of (L0 := #[.val (.ref a1), .val (.ref t), .unset]) (plainFor_of_name pn_com_example_junctura_junctura_model_PolynomialCost) (fun m => by first | (simp [entryFrame, mkF, argsToLocals, Value.category]; done) | rfl) ?_
  intro p e s m below meth c C hnm
  refine Go.aloadN C d1_0 rfl rfl (pc' := 1) rfl ?_
  refine Go.initO C d1_1 (hw _ (List.mem_of_getElem? (i := 8) rfl)) (hw _ (List.mem_of_getElem? (i := 9) rfl)) (hw _ (List.mem_of_getElem? (i := 10) rfl)) rfl (by decide) (by decide) (pc' := 4) rfl ?_
  refine Go.aloadN C d1_4 rfl rfl (pc' := 5) rfl ?_
  refine Go.arraylengthV C d1_5 V (pc' := 6) rfl ?_
  refine Go.if_ne_t C d1_6 (by decide) (by decide) (pc' := 19) (by decide) ?_
  refine Go.iconst C d1_19 (v := 0) rfl (pc' := 20) rfl ?_
  refine Go.istoreN C d1_20 (L' := #[.val (.ref a1), .val (.ref t), .val (.int (0 : Int32))]) rfl (pc' := 21) rfl ?_
  refine Go.iloadN C d1_21 rfl (pc' := 22) rfl ?_
  refine Go.aloadN C d1_22 rfl rfl (pc' := 23) rfl ?_
  refine Go.arraylengthV C d1_23 V (pc' := 24) rfl ?_
  refine Go.icmp_ge_f C d1_24 (by decide) (pc' := 27) rfl ?_
  refine Go.aloadN C d1_27 rfl rfl (pc' := 28) rfl ?_
  refine Go.iloadN C d1_28 rfl (pc' := 29) rfl ?_
  refine Go.daloadV C d1_29 V (by decide) (by decide) (v := .double b0) rfl (pc' := 30) rfl ?_
  refine Go.dconst0 C d1_30 (v := 0) rfl (pc' := 31) rfl ?_
  refine Go.dcmp C d1_31 (v := cmpValue (FP.dcmp b0 0) .l) rfl (pc' := 32) rfl ?_
  refine Go.if_lt_f C d1_32 P0 (pc' := 35) rfl ?_
  refine Go.aloadN C d1_35 rfl rfl (pc' := 36) rfl ?_
  refine Go.iloadN C d1_36 rfl (pc' := 37) rfl ?_
  refine Go.daloadV C d1_37 V (by decide) (by decide) (v := .double b0) rfl (pc' := 38) rfl ?_
  refine Go.ldc2Double C d1_38 (hw _ (List.mem_of_getElem? (i := 11) rfl)) (pc' := 41) rfl ?_
  refine Go.dcmp C d1_41 (v := cmpValue (FP.dcmp b0 9218868437227405312) .g) rfl (pc' := 42) rfl ?_
  refine Go.if_lt_t C d1_42 R0 (by decide) (pc' := 62) (by decide) ?_
  refine Go.iinc C d1_62 rfl (y := (1 : Int32)) rfl (L' := #[.val (.ref a1), .val (.ref t), .val (.int (1 : Int32))]) rfl (pc' := 65) rfl ?_
  refine Go.goto C d1_65 (by decide) (pc' := 21) (by decide) ?_
  refine Go.iloadN C d1_21 rfl (pc' := 22) rfl ?_
  refine Go.aloadN C d1_22 rfl rfl (pc' := 23) rfl ?_
  refine Go.arraylengthV C d1_23 V (pc' := 24) rfl ?_
  refine Go.icmp_ge_f C d1_24 (by decide) (pc' := 27) rfl ?_
  refine Go.aloadN C d1_27 rfl rfl (pc' := 28) rfl ?_
  refine Go.iloadN C d1_28 rfl (pc' := 29) rfl ?_
  refine Go.daloadV C d1_29 V (by decide) (by decide) (v := .double b1) rfl (pc' := 30) rfl ?_
  refine Go.dconst0 C d1_30 (v := 0) rfl (pc' := 31) rfl ?_
  refine Go.dcmp C d1_31 (v := cmpValue (FP.dcmp b1 0) .l) rfl (pc' := 32) rfl ?_
  refine Go.if_lt_f C d1_32 P1 (pc' := 35) rfl ?_
  refine Go.aloadN C d1_35 rfl rfl (pc' := 36) rfl ?_
  refine Go.iloadN C d1_36 rfl (pc' := 37) rfl ?_
  refine Go.daloadV C d1_37 V (by decide) (by decide) (v := .double b1) rfl (pc' := 38) rfl ?_
  refine Go.ldc2Double C d1_38 (hw _ (List.mem_of_getElem? (i := 11) rfl)) (pc' := 41) rfl ?_
  refine Go.dcmp C d1_41 (v := cmpValue (FP.dcmp b1 9218868437227405312) .g) rfl (pc' := 42) rfl ?_
  refine Go.if_lt_t C d1_42 R1 (by decide) (pc' := 62) (by decide) ?_
  refine Go.iinc C d1_62 rfl (y := (2 : Int32)) rfl (L' := #[.val (.ref a1), .val (.ref t), .val (.int (2 : Int32))]) rfl (pc' := 65) rfl ?_
  refine Go.goto C d1_65 (by decide) (pc' := 21) (by decide) ?_
  refine Go.iloadN C d1_21 rfl (pc' := 22) rfl ?_
  refine Go.aloadN C d1_22 rfl rfl (pc' := 23) rfl ?_
  refine Go.arraylengthV C d1_23 V (pc' := 24) rfl ?_
  refine Go.icmp_ge_f C d1_24 (by decide) (pc' := 27) rfl ?_
  refine Go.aloadN C d1_27 rfl rfl (pc' := 28) rfl ?_
  refine Go.iloadN C d1_28 rfl (pc' := 29) rfl ?_
  refine Go.daloadV C d1_29 V (by decide) (by decide) (v := .double b2) rfl (pc' := 30) rfl ?_
  refine Go.dconst0 C d1_30 (v := 0) rfl (pc' := 31) rfl ?_
  refine Go.dcmp C d1_31 (v := cmpValue (FP.dcmp b2 0) .l) rfl (pc' := 32) rfl ?_
  refine Go.if_lt_f C d1_32 P2 (pc' := 35) rfl ?_
  refine Go.aloadN C d1_35 rfl rfl (pc' := 36) rfl ?_
  refine Go.iloadN C d1_36 rfl (pc' := 37) rfl ?_
  refine Go.daloadV C d1_37 V (by decide) (by decide) (v := .double b2) rfl (pc' := 38) rfl ?_
  refine Go.ldc2Double C d1_38 (hw _ (List.mem_of_getElem? (i := 11) rfl)) (pc' := 41) rfl ?_
  refine Go.dcmp C d1_41 (v := cmpValue (FP.dcmp b2 9218868437227405312) .g) rfl (pc' := 42) rfl ?_
  refine Go.if_lt_t C d1_42 R2 (by decide) (pc' := 62) (by decide) ?_
  refine Go.iinc C d1_62 rfl (y := (3 : Int32)) rfl (L' := #[.val (.ref a1), .val (.ref t), .val (.int (3 : Int32))]) rfl (pc' := 65) rfl ?_
  refine Go.goto C d1_65 (by decide) (pc' := 21) (by decide) ?_
  refine Go.iloadN C d1_21 rfl (pc' := 22) rfl ?_
  refine Go.aloadN C d1_22 rfl rfl (pc' := 23) rfl ?_
  refine Go.arraylengthV C d1_23 V (pc' := 24) rfl ?_
  refine Go.icmp_ge_f C d1_24 (by decide) (pc' := 27) rfl ?_
  refine Go.aloadN C d1_27 rfl rfl (pc' := 28) rfl ?_
  refine Go.iloadN C d1_28 rfl (pc' := 29) rfl ?_
  refine Go.daloadV C d1_29 V (by decide) (by decide) (v := .double b3) rfl (pc' := 30) rfl ?_
  refine Go.dconst0 C d1_30 (v := 0) rfl (pc' := 31) rfl ?_
  refine Go.dcmp C d1_31 (v := cmpValue (FP.dcmp b3 0) .l) rfl (pc' := 32) rfl ?_
  refine Go.if_lt_f C d1_32 P3 (pc' := 35) rfl ?_
  refine Go.aloadN C d1_35 rfl rfl (pc' := 36) rfl ?_
  refine Go.iloadN C d1_36 rfl (pc' := 37) rfl ?_
  refine Go.daloadV C d1_37 V (by decide) (by decide) (v := .double b3) rfl (pc' := 38) rfl ?_
  refine Go.ldc2Double C d1_38 (hw _ (List.mem_of_getElem? (i := 11) rfl)) (pc' := 41) rfl ?_
  refine Go.dcmp C d1_41 (v := cmpValue (FP.dcmp b3 9218868437227405312) .g) rfl (pc' := 42) rfl ?_
  refine Go.if_lt_t C d1_42 R3 (by decide) (pc' := 62) (by decide) ?_
  refine Go.iinc C d1_62 rfl (y := (4 : Int32)) rfl (L' := #[.val (.ref a1), .val (.ref t), .val (.int (4 : Int32))]) rfl (pc' := 65) rfl ?_
  refine Go.goto C d1_65 (by decide) (pc' := 21) (by decide) ?_
  refine Go.iloadN C d1_21 rfl (pc' := 22) rfl ?_
  refine Go.aloadN C d1_22 rfl rfl (pc' := 23) rfl ?_
  refine Go.arraylengthV C d1_23 V (pc' := 24) rfl ?_
  refine Go.icmp_ge_t C d1_24 (by decide) (by decide) (pc' := 68) (by decide) ?_
  refine Go.aloadN C d1_68 rfl rfl (pc' := 69) rfl ?_
  refine Go.aloadN C d1_69 rfl rfl (pc' := 70) rfl ?_
  refine Go.cloneV C bnE d1_70 (hw _ (List.mem_of_getElem? (i := 12) rfl)) (hw _ (List.mem_of_getElem? (i := 13) rfl)) (hw _ (List.mem_of_getElem? (i := 17) rfl)) (hw _ (List.mem_of_getElem? (i := 15) rfl)) (hw _ (List.mem_of_getElem? (i := 16) rfl)) (hw _ (List.mem_of_getElem? (i := 18) rfl)) V Et rfl (by decide) (Nat.le_of_ble_eq_true rfl) (cap := 4) (by decide) (by decide) (by decide) (pc' := 73) rfl ?_
  intro h1 E1 V1 A1
  obtain ⟨t', e_t'⟩ : ∃ a, a = h0.size := ⟨_, rfl⟩
  rw [← e_t'] at V1 A1 ⊢
  refine Go.castY C d1_73 (hw _ (List.mem_of_getElem? (i := 19) rfl)) (Ins.self A1) (pc' := 76) rfl ?_
  refine Go.putF C d1_76 (hw _ (List.mem_of_getElem? (i := 21) rfl)) Via.refl (Fo.ext E1) (E.ext E1) (Or.inr ⟨(hw _ (List.mem_of_getElem? (i := 22) rfl)), rfl, hnm⟩) (hw _ (List.mem_of_getElem? (i := 3) rfl)) (ty := (.array .double)) (by decide) rfl rfl na (fun _ _ _ q => q) (pc' := 79) rfl ?_
  intro h2 W2
  refine Go.retV C d1_79 (by decide) (by decide) ?_
  exact ⟨rfl, ((Keep.refl _ _).ext E1).wr W2 (Or.inl (List.mem_singleton.mpr rfl)), (E.ext E1).wr W2, t', (Fo.ext E1).same W2, V1.other W2 (Ne.symm (Nat.ne_of_lt (e_t' ▸ E.lt)))⟩
set_option maxRecDepth 65536 in
set_option maxHeartbeats 40000000 in
theorem rm_int1 (l : Launch) (Z : State) (a0 : Array Value) (hw : ∀ d ∈ tables_1, d.before a0 Z = true) (a1 t : Addr) (kD : ClassId) (v : UInt64) (M : Int) (b0 : UInt64) (E0 : Int) (h0 : Heap) (n0 : Nat) (Fo : Fld Z h0 a1 "com/example/junctura/junctura/model/PolynomialCost" "coefficients" "[D" (.ref t)) (V : Arv Z h0 t kD .double (1 : Int32) [.double b0] (.double 0)) (Hv : DV v M 2) (bM : M.natAbs ≤ 2048) (B0 : DV b0 (E0 * 1) 0) (e0 : E0.natAbs ≤ 255) :
    Ct l Z (⟨"com/example/junctura/junctura/model/PolynomialCost", "integral", "(D)D"⟩ : MethodName) prog_34_method_5_code 6 (some .double) [] ({ frames := 0, cells := 0, slots := 0, locals := 0 } : Room) #[.ref a1, .double v] h0 n0 (fun r h => (∃ x, r = some (.double x) ∧ DV x (E0 * M) 2) ∧ h0 = h) := by
  refine Ct.of (L0 := #[.val (.ref a1), .val (.double v), .second, .unset, .unset, .unset]) (plainFor_of_name pn_com_example_junctura_junctura_model_PolynomialCost) (fun m => by first | (simp [entryFrame, mkF, argsToLocals, Value.category]; done) | rfl) ?_
  intro p e s m below meth c C hnm
  refine Go.dconst0 C d3_0 (v := 0) rfl (pc' := 1) rfl ?_
  refine Go.dstoreN C d3_1 (L' := #[.val (.ref a1), .val (.double v), .second, .val (.double 0), .second, .unset]) rfl (pc' := 2) rfl ?_
  refine Go.aloadN C d3_2 rfl rfl (pc' := 3) rfl ?_
  refine Go.getF C d3_3 (hw _ (List.mem_of_getElem? (i := 21) rfl)) Via.refl Fo (pc' := 6) rfl ?_
  refine Go.arraylengthV C d3_6 V (pc' := 7) rfl ?_
  refine Go.iconst C d3_7 (v := 1) rfl (pc' := 8) rfl ?_
  refine Go.isub C d3_8 (pc' := 9) rfl ?_
  show Go p l e _ s m _ below meth c Z _ n0 _ _ _ _ _ 9 #[.val (.ref a1), .val (.double v), .second, .val (.double 0), .second, .unset] [(.int (0 : Int32))]
  refine Go.istore C d3_9 (L' := #[.val (.ref a1), .val (.double v), .second, .val (.double 0), .second, .val (.int (0 : Int32))]) rfl (pc' := 11) rfl ?_
  refine Go.iload C d3_11 rfl (pc' := 13) rfl ?_
  refine Go.if_lt_f C d3_13 (by decide) (pc' := 16) rfl ?_
  refine Go.dloadN C d3_16 rfl (pc' := 17) rfl ?_
  refine Go.dloadN C d3_17 rfl (pc' := 18) rfl ?_
  have D0 : DV (FP.dmul 0 v) 0 0 := by have q := (DV.zero 0 (by decide)).mul Hv (by decide) (by rw [Int.zero_mul]; decide); rw [Int.zero_mul] at q; exact q.z 0 (by decide)
  obtain ⟨m0, em0⟩ : ∃ y, FP.dmul 0 v = y := ⟨_, rfl⟩
  rw [em0] at D0
  refine Go.dmul C d3_18 (em0 ▸ D0.nn) em0 (pc' := 19) rfl ?_
  refine Go.aloadN C d3_19 rfl rfl (pc' := 20) rfl ?_
  refine Go.getF C d3_20 (hw _ (List.mem_of_getElem? (i := 21) rfl)) Via.refl Fo (pc' := 23) rfl ?_
  refine Go.iload C d3_23 rfl (pc' := 25) rfl ?_
  refine Go.daloadV C d3_25 V (by decide) (by decide) (v := .double b0) rfl (pc' := 26) rfl ?_
  refine Go.iload C d3_26 rfl (pc' := 28) rfl ?_
  refine Go.iconst C d3_28 (v := 1) rfl (pc' := 29) rfl ?_
  refine Go.iadd C d3_29 (pc' := 30) rfl ?_
  refine Go.i2d C d3_30 (v := FP.l2d 1) (i2d_w _) (pc' := 31) rfl ?_
  have G0 : DV (FP.ddiv b0 (FP.l2d 1)) E0 0 := DV.div B0 (show DV (FP.l2d 1) 1 0 from DV.of_l2d (a := 1) ⟨by decide, by decide⟩) (by decide) (Nat.lt_of_le_of_lt e0 (by decide))
  obtain ⟨g0, eg0⟩ : ∃ y, FP.ddiv b0 (FP.l2d 1) = y := ⟨_, rfl⟩
  rw [eg0] at G0
  refine Go.ddiv C d3_31 (eg0 ▸ G0.nn) eg0 (pc' := 32) rfl ?_
  have d1 : E0.natAbs ≤ 255 := e0
  have X1 : DV (FP.dadd m0 g0) E0 0 := by have q := D0.add G0 (by rw [Int.zero_add]; exact Nat.lt_of_le_of_lt d1 (by decide)); rwa [Int.zero_add] at q
  obtain ⟨x1, ex1⟩ : ∃ y, FP.dadd m0 g0 = y := ⟨_, rfl⟩
  rw [ex1] at X1
  refine Go.dadd C d3_32 (ex1 ▸ X1.nn) ex1 (pc' := 33) rfl ?_
  refine Go.dstoreN C d3_33 (L' := #[.val (.ref a1), .val (.double v), .second, .val (.double x1), .second, .val (.int (0 : Int32))]) rfl (pc' := 34) rfl ?_
  refine Go.iinc C d3_34 rfl (y := (-1 : Int32)) rfl (L' := #[.val (.ref a1), .val (.double v), .second, .val (.double x1), .second, .val (.int (-1 : Int32))]) rfl (pc' := 37) rfl ?_
  refine Go.goto C d3_37 (by decide) (pc' := 11) (by decide) ?_
  refine Go.iload C d3_11 rfl (pc' := 13) rfl ?_
  refine Go.if_lt_t C d3_13 (by decide) (by decide) (pc' := 40) (by decide) ?_
  refine Go.dloadN C d3_40 rfl (pc' := 41) rfl ?_
  refine Go.dloadN C d3_41 rfl (pc' := 42) rfl ?_
  have cF : (E0 * M).natAbs ≤ 522240 := by rw [Int.natAbs_mul]; exact Nat.le_trans (Nat.mul_le_mul d1 bM) (by decide)
  have XF : DV (FP.dmul x1 v) (E0 * M) 2 := X1.mul Hv (by decide) (Nat.lt_of_le_of_lt cF (by decide))
  refine Go.dmul C d3_42 XF.nn rfl (pc' := 43) rfl ?_
  refine Go.retD C d3_43 (by decide) (by decide) ?_
  exact ⟨⟨_, rfl, XF⟩, rfl⟩
set_option maxRecDepth 65536 in
set_option maxHeartbeats 40000000 in
theorem rm_int2 (l : Launch) (Z : State) (a0 : Array Value) (hw : ∀ d ∈ tables_1, d.before a0 Z = true) (a1 t : Addr) (kD : ClassId) (v : UInt64) (M : Int) (b0 b1 : UInt64) (E0 E1 : Int) (h0 : Heap) (n0 : Nat) (Fo : Fld Z h0 a1 "com/example/junctura/junctura/model/PolynomialCost" "coefficients" "[D" (.ref t)) (V : Arv Z h0 t kD .double (2 : Int32) [.double b0, .double b1] (.double 0)) (Hv : DV v M 2) (bM : M.natAbs ≤ 2048) (B0 : DV b0 (E0 * 1) 0) (e0 : E0.natAbs ≤ 255) (B1 : DV b1 (E1 * 2) 0) (e1 : E1.natAbs ≤ 255) :
    Ct l Z (⟨"com/example/junctura/junctura/model/PolynomialCost", "integral", "(D)D"⟩ : MethodName) prog_34_method_5_code 6 (some .double) [] ({ frames := 0, cells := 0, slots := 0, locals := 0 } : Room) #[.ref a1, .double v] h0 n0 (fun r h => (∃ x, r = some (.double x) ∧ DV x ((E1 * M + E0 * ((2 ^ 2 : Nat) : Int)) * M) 4) ∧ h0 = h) := by
  refine Ct.of (L0 := #[.val (.ref a1), .val (.double v), .second, .unset, .unset, .unset]) (plainFor_of_name pn_com_example_junctura_junctura_model_PolynomialCost) (fun m => by first | (simp [entryFrame, mkF, argsToLocals, Value.category]; done) | rfl) ?_
  intro p e s m below meth c C hnm
  refine Go.dconst0 C d3_0 (v := 0) rfl (pc' := 1) rfl ?_
  refine Go.dstoreN C d3_1 (L' := #[.val (.ref a1), .val (.double v), .second, .val (.double 0), .second, .unset]) rfl (pc' := 2) rfl ?_
  refine Go.aloadN C d3_2 rfl rfl (pc' := 3) rfl ?_
  refine Go.getF C d3_3 (hw _ (List.mem_of_getElem? (i := 21) rfl)) Via.refl Fo (pc' := 6) rfl ?_
  refine Go.arraylengthV C d3_6 V (pc' := 7) rfl ?_
  refine Go.iconst C d3_7 (v := 1) rfl (pc' := 8) rfl ?_
  refine Go.isub C d3_8 (pc' := 9) rfl ?_
  show Go p l e _ s m _ below meth c Z _ n0 _ _ _ _ _ 9 #[.val (.ref a1), .val (.double v), .second, .val (.double 0), .second, .unset] [(.int (1 : Int32))]
  refine Go.istore C d3_9 (L' := #[.val (.ref a1), .val (.double v), .second, .val (.double 0), .second, .val (.int (1 : Int32))]) rfl (pc' := 11) rfl ?_
  refine Go.iload C d3_11 rfl (pc' := 13) rfl ?_
  refine Go.if_lt_f C d3_13 (by decide) (pc' := 16) rfl ?_
  refine Go.dloadN C d3_16 rfl (pc' := 17) rfl ?_
  refine Go.dloadN C d3_17 rfl (pc' := 18) rfl ?_
  have D0 : DV (FP.dmul 0 v) 0 0 := by have q := (DV.zero 0 (by decide)).mul Hv (by decide) (by rw [Int.zero_mul]; decide); rw [Int.zero_mul] at q; exact q.z 0 (by decide)
  obtain ⟨m0, em0⟩ : ∃ y, FP.dmul 0 v = y := ⟨_, rfl⟩
  rw [em0] at D0
  refine Go.dmul C d3_18 (em0 ▸ D0.nn) em0 (pc' := 19) rfl ?_
  refine Go.aloadN C d3_19 rfl rfl (pc' := 20) rfl ?_
  refine Go.getF C d3_20 (hw _ (List.mem_of_getElem? (i := 21) rfl)) Via.refl Fo (pc' := 23) rfl ?_
  refine Go.iload C d3_23 rfl (pc' := 25) rfl ?_
  refine Go.daloadV C d3_25 V (by decide) (by decide) (v := .double b1) rfl (pc' := 26) rfl ?_
  refine Go.iload C d3_26 rfl (pc' := 28) rfl ?_
  refine Go.iconst C d3_28 (v := 1) rfl (pc' := 29) rfl ?_
  refine Go.iadd C d3_29 (pc' := 30) rfl ?_
  refine Go.i2d C d3_30 (v := FP.l2d 2) (i2d_w _) (pc' := 31) rfl ?_
  have G0 : DV (FP.ddiv b1 (FP.l2d 2)) E1 0 := DV.div B1 (show DV (FP.l2d 2) 2 0 from DV.of_l2d (a := 2) ⟨by decide, by decide⟩) (by decide) (Nat.lt_of_le_of_lt e1 (by decide))
  obtain ⟨g0, eg0⟩ : ∃ y, FP.ddiv b1 (FP.l2d 2) = y := ⟨_, rfl⟩
  rw [eg0] at G0
  refine Go.ddiv C d3_31 (eg0 ▸ G0.nn) eg0 (pc' := 32) rfl ?_
  have d1 : E1.natAbs ≤ 255 := e1
  have X1 : DV (FP.dadd m0 g0) E1 0 := by have q := D0.add G0 (by rw [Int.zero_add]; exact Nat.lt_of_le_of_lt d1 (by decide)); rwa [Int.zero_add] at q
  obtain ⟨x1, ex1⟩ : ∃ y, FP.dadd m0 g0 = y := ⟨_, rfl⟩
  rw [ex1] at X1
  refine Go.dadd C d3_32 (ex1 ▸ X1.nn) ex1 (pc' := 33) rfl ?_
  refine Go.dstoreN C d3_33 (L' := #[.val (.ref a1), .val (.double v), .second, .val (.double x1), .second, .val (.int (1 : Int32))]) rfl (pc' := 34) rfl ?_
  refine Go.iinc C d3_34 rfl (y := (0 : Int32)) rfl (L' := #[.val (.ref a1), .val (.double v), .second, .val (.double x1), .second, .val (.int (0 : Int32))]) rfl (pc' := 37) rfl ?_
  refine Go.goto C d3_37 (by decide) (pc' := 11) (by decide) ?_
  refine Go.iload C d3_11 rfl (pc' := 13) rfl ?_
  refine Go.if_lt_f C d3_13 (by decide) (pc' := 16) rfl ?_
  refine Go.dloadN C d3_16 rfl (pc' := 17) rfl ?_
  refine Go.dloadN C d3_17 rfl (pc' := 18) rfl ?_
  have c1 : (E1 * M).natAbs ≤ 522240 := by rw [Int.natAbs_mul]; exact Nat.le_trans (Nat.mul_le_mul d1 bM) (by decide)
  have D1 : DV (FP.dmul x1 v) (E1 * M) 2 := (X1.mul Hv (by decide) (Nat.lt_of_le_of_lt c1 (by decide)))
  obtain ⟨m1, em1⟩ : ∃ y, FP.dmul x1 v = y := ⟨_, rfl⟩
  rw [em1] at D1
  refine Go.dmul C d3_18 (em1 ▸ D1.nn) em1 (pc' := 19) rfl ?_
  refine Go.aloadN C d3_19 rfl rfl (pc' := 20) rfl ?_
  refine Go.getF C d3_20 (hw _ (List.mem_of_getElem? (i := 21) rfl)) Via.refl Fo (pc' := 23) rfl ?_
  refine Go.iload C d3_23 rfl (pc' := 25) rfl ?_
  refine Go.daloadV C d3_25 V (by decide) (by decide) (v := .double b0) rfl (pc' := 26) rfl ?_
  refine Go.iload C d3_26 rfl (pc' := 28) rfl ?_
  refine Go.iconst C d3_28 (v := 1) rfl (pc' := 29) rfl ?_
  refine Go.iadd C d3_29 (pc' := 30) rfl ?_
  refine Go.i2d C d3_30 (v := FP.l2d 1) (i2d_w _) (pc' := 31) rfl ?_
  have G1 : DV (FP.ddiv b0 (FP.l2d 1)) E0 0 := DV.div B0 (show DV (FP.l2d 1) 1 0 from DV.of_l2d (a := 1) ⟨by decide, by decide⟩) (by decide) (Nat.lt_of_le_of_lt e0 (by decide))
  obtain ⟨g1, eg1⟩ : ∃ y, FP.ddiv b0 (FP.l2d 1) = y := ⟨_, rfl⟩
  rw [eg1] at G1
  refine Go.ddiv C d3_31 (eg1 ▸ G1.nn) eg1 (pc' := 32) rfl ?_
  have d2 : (E1 * M + E0 * ((2 ^ 2 : Nat) : Int)).natAbs ≤ 523260 := Nat.le_trans (Int.natAbs_add_le _ _) (Nat.le_trans (Nat.add_le_add c1 (by rw [Int.natAbs_mul]; exact Nat.mul_le_mul e0 (Nat.le_refl _))) (by decide))
  have X2 : DV (FP.dadd m1 g1) (E1 * M + E0 * ((2 ^ 2 : Nat) : Int)) 2 := D1.add (show DV g1 (E0 * ((2 ^ 2 : Nat) : Int)) 2 from by have q := G1.scale 2 (by decide); rwa [Nat.zero_add] at q) (Nat.lt_of_le_of_lt d2 (by decide))
  obtain ⟨x2, ex2⟩ : ∃ y, FP.dadd m1 g1 = y := ⟨_, rfl⟩
  rw [ex2] at X2
  refine Go.dadd C d3_32 (ex2 ▸ X2.nn) ex2 (pc' := 33) rfl ?_
  refine Go.dstoreN C d3_33 (L' := #[.val (.ref a1), .val (.double v), .second, .val (.double x2), .second, .val (.int (0 : Int32))]) rfl (pc' := 34) rfl ?_
  refine Go.iinc C d3_34 rfl (y := (-1 : Int32)) rfl (L' := #[.val (.ref a1), .val (.double v), .second, .val (.double x2), .second, .val (.int (-1 : Int32))]) rfl (pc' := 37) rfl ?_
  refine Go.goto C d3_37 (by decide) (pc' := 11) (by decide) ?_
  refine Go.iload C d3_11 rfl (pc' := 13) rfl ?_
  refine Go.if_lt_t C d3_13 (by decide) (by decide) (pc' := 40) (by decide) ?_
  refine Go.dloadN C d3_40 rfl (pc' := 41) rfl ?_
  refine Go.dloadN C d3_41 rfl (pc' := 42) rfl ?_
  have cF : ((E1 * M + E0 * ((2 ^ 2 : Nat) : Int)) * M).natAbs ≤ 1071636480 := by rw [Int.natAbs_mul]; exact Nat.le_trans (Nat.mul_le_mul d2 bM) (by decide)
  have XF : DV (FP.dmul x2 v) ((E1 * M + E0 * ((2 ^ 2 : Nat) : Int)) * M) 4 := X2.mul Hv (by decide) (Nat.lt_of_le_of_lt cF (by decide))
  refine Go.dmul C d3_42 XF.nn rfl (pc' := 43) rfl ?_
  refine Go.retD C d3_43 (by decide) (by decide) ?_
  exact ⟨⟨_, rfl, XF⟩, rfl⟩
set_option maxRecDepth 65536 in
set_option maxHeartbeats 40000000 in
theorem rm_int3 (l : Launch) (Z : State) (a0 : Array Value) (hw : ∀ d ∈ tables_1, d.before a0 Z = true) (a1 t : Addr) (kD : ClassId) (v : UInt64) (M : Int) (b0 b1 b2 : UInt64) (E0 E1 E2 : Int) (h0 : Heap) (n0 : Nat) (Fo : Fld Z h0 a1 "com/example/junctura/junctura/model/PolynomialCost" "coefficients" "[D" (.ref t)) (V : Arv Z h0 t kD .double (3 : Int32) [.double b0, .double b1, .double b2] (.double 0)) (Hv : DV v M 2) (bM : M.natAbs ≤ 2048) (B0 : DV b0 (E0 * 1) 0) (e0 : E0.natAbs ≤ 255) (B1 : DV b1 (E1 * 2) 0) (e1 : E1.natAbs ≤ 255) (B2 : DV b2 (E2 * 3) 0) (e2 : E2.natAbs ≤ 255) :
    Ct l Z (⟨"com/example/junctura/junctura/model/PolynomialCost", "integral", "(D)D"⟩ : MethodName) prog_34_method_5_code 6 (some .double) [] ({ frames := 0, cells := 0, slots := 0, locals := 0 } : Room) #[.ref a1, .double v] h0 n0 (fun r h => (∃ x, r = some (.double x) ∧ DV x (((E2 * M + E1 * ((2 ^ 2 : Nat) : Int)) * M + E0 * ((2 ^ 4 : Nat) : Int)) * M) 6) ∧ h0 = h) := by
  refine Ct.of (L0 := #[.val (.ref a1), .val (.double v), .second, .unset, .unset, .unset]) (plainFor_of_name pn_com_example_junctura_junctura_model_PolynomialCost) (fun m => by first | (simp [entryFrame, mkF, argsToLocals, Value.category]; done) | rfl) ?_
  intro p e s m below meth c C hnm
  refine Go.dconst0 C d3_0 (v := 0) rfl (pc' := 1) rfl ?_
  refine Go.dstoreN C d3_1 (L' := #[.val (.ref a1), .val (.double v), .second, .val (.double 0), .second, .unset]) rfl (pc' := 2) rfl ?_
  refine Go.aloadN C d3_2 rfl rfl (pc' := 3) rfl ?_
  refine Go.getF C d3_3 (hw _ (List.mem_of_getElem? (i := 21) rfl)) Via.refl Fo (pc' := 6) rfl ?_
  refine Go.arraylengthV C d3_6 V (pc' := 7) rfl ?_
  refine Go.iconst C d3_7 (v := 1) rfl (pc' := 8) rfl ?_
  refine Go.isub C d3_8 (pc' := 9) rfl ?_
  show Go p l e _ s m _ below meth c Z _ n0 _ _ _ _ _ 9 #[.val (.ref a1), .val (.double v), .second, .val (.double 0), .second, .unset] [(.int (2 : Int32))]
  refine Go.istore C d3_9 (L' := #[.val (.ref a1), .val (.double v), .second, .val (.double 0), .second, .val (.int (2 : Int32))]) rfl (pc' := 11) rfl ?_
  refine Go.iload C d3_11 rfl (pc' := 13) rfl ?_
  refine Go.if_lt_f C d3_13 (by decide) (pc' := 16) rfl ?_
  refine Go.dloadN C d3_16 rfl (pc' := 17) rfl ?_
  refine Go.dloadN C d3_17 rfl (pc' := 18) rfl ?_
  have D0 : DV (FP.dmul 0 v) 0 0 := by have q := (DV.zero 0 (by decide)).mul Hv (by decide) (by rw [Int.zero_mul]; decide); rw [Int.zero_mul] at q; exact q.z 0 (by decide)
  obtain ⟨m0, em0⟩ : ∃ y, FP.dmul 0 v = y := ⟨_, rfl⟩
  rw [em0] at D0
  refine Go.dmul C d3_18 (em0 ▸ D0.nn) em0 (pc' := 19) rfl ?_
  refine Go.aloadN C d3_19 rfl rfl (pc' := 20) rfl ?_
  refine Go.getF C d3_20 (hw _ (List.mem_of_getElem? (i := 21) rfl)) Via.refl Fo (pc' := 23) rfl ?_
  refine Go.iload C d3_23 rfl (pc' := 25) rfl ?_
  refine Go.daloadV C d3_25 V (by decide) (by decide) (v := .double b2) rfl (pc' := 26) rfl ?_
  refine Go.iload C d3_26 rfl (pc' := 28) rfl ?_
  refine Go.iconst C d3_28 (v := 1) rfl (pc' := 29) rfl ?_
  refine Go.iadd C d3_29 (pc' := 30) rfl ?_
  refine Go.i2d C d3_30 (v := FP.l2d 3) (i2d_w _) (pc' := 31) rfl ?_
  have G0 : DV (FP.ddiv b2 (FP.l2d 3)) E2 0 := DV.div B2 (show DV (FP.l2d 3) 3 0 from DV.of_l2d (a := 3) ⟨by decide, by decide⟩) (by decide) (Nat.lt_of_le_of_lt e2 (by decide))
  obtain ⟨g0, eg0⟩ : ∃ y, FP.ddiv b2 (FP.l2d 3) = y := ⟨_, rfl⟩
  rw [eg0] at G0
  refine Go.ddiv C d3_31 (eg0 ▸ G0.nn) eg0 (pc' := 32) rfl ?_
  have d1 : E2.natAbs ≤ 255 := e2
  have X1 : DV (FP.dadd m0 g0) E2 0 := by have q := D0.add G0 (by rw [Int.zero_add]; exact Nat.lt_of_le_of_lt d1 (by decide)); rwa [Int.zero_add] at q
  obtain ⟨x1, ex1⟩ : ∃ y, FP.dadd m0 g0 = y := ⟨_, rfl⟩
  rw [ex1] at X1
  refine Go.dadd C d3_32 (ex1 ▸ X1.nn) ex1 (pc' := 33) rfl ?_
  refine Go.dstoreN C d3_33 (L' := #[.val (.ref a1), .val (.double v), .second, .val (.double x1), .second, .val (.int (2 : Int32))]) rfl (pc' := 34) rfl ?_
  refine Go.iinc C d3_34 rfl (y := (1 : Int32)) rfl (L' := #[.val (.ref a1), .val (.double v), .second, .val (.double x1), .second, .val (.int (1 : Int32))]) rfl (pc' := 37) rfl ?_
  refine Go.goto C d3_37 (by decide) (pc' := 11) (by decide) ?_
  refine Go.iload C d3_11 rfl (pc' := 13) rfl ?_
  refine Go.if_lt_f C d3_13 (by decide) (pc' := 16) rfl ?_
  refine Go.dloadN C d3_16 rfl (pc' := 17) rfl ?_
  refine Go.dloadN C d3_17 rfl (pc' := 18) rfl ?_
  have c1 : (E2 * M).natAbs ≤ 522240 := by rw [Int.natAbs_mul]; exact Nat.le_trans (Nat.mul_le_mul d1 bM) (by decide)
  have D1 : DV (FP.dmul x1 v) (E2 * M) 2 := (X1.mul Hv (by decide) (Nat.lt_of_le_of_lt c1 (by decide)))
  obtain ⟨m1, em1⟩ : ∃ y, FP.dmul x1 v = y := ⟨_, rfl⟩
  rw [em1] at D1
  refine Go.dmul C d3_18 (em1 ▸ D1.nn) em1 (pc' := 19) rfl ?_
  refine Go.aloadN C d3_19 rfl rfl (pc' := 20) rfl ?_
  refine Go.getF C d3_20 (hw _ (List.mem_of_getElem? (i := 21) rfl)) Via.refl Fo (pc' := 23) rfl ?_
  refine Go.iload C d3_23 rfl (pc' := 25) rfl ?_
  refine Go.daloadV C d3_25 V (by decide) (by decide) (v := .double b1) rfl (pc' := 26) rfl ?_
  refine Go.iload C d3_26 rfl (pc' := 28) rfl ?_
  refine Go.iconst C d3_28 (v := 1) rfl (pc' := 29) rfl ?_
  refine Go.iadd C d3_29 (pc' := 30) rfl ?_
  refine Go.i2d C d3_30 (v := FP.l2d 2) (i2d_w _) (pc' := 31) rfl ?_
  have G1 : DV (FP.ddiv b1 (FP.l2d 2)) E1 0 := DV.div B1 (show DV (FP.l2d 2) 2 0 from DV.of_l2d (a := 2) ⟨by decide, by decide⟩) (by decide) (Nat.lt_of_le_of_lt e1 (by decide))
  obtain ⟨g1, eg1⟩ : ∃ y, FP.ddiv b1 (FP.l2d 2) = y := ⟨_, rfl⟩
  rw [eg1] at G1
  refine Go.ddiv C d3_31 (eg1 ▸ G1.nn) eg1 (pc' := 32) rfl ?_
  have d2 : (E2 * M + E1 * ((2 ^ 2 : Nat) : Int)).natAbs ≤ 523260 := Nat.le_trans (Int.natAbs_add_le _ _) (Nat.le_trans (Nat.add_le_add c1 (by rw [Int.natAbs_mul]; exact Nat.mul_le_mul e1 (Nat.le_refl _))) (by decide))
  have X2 : DV (FP.dadd m1 g1) (E2 * M + E1 * ((2 ^ 2 : Nat) : Int)) 2 := D1.add (show DV g1 (E1 * ((2 ^ 2 : Nat) : Int)) 2 from by have q := G1.scale 2 (by decide); rwa [Nat.zero_add] at q) (Nat.lt_of_le_of_lt d2 (by decide))
  obtain ⟨x2, ex2⟩ : ∃ y, FP.dadd m1 g1 = y := ⟨_, rfl⟩
  rw [ex2] at X2
  refine Go.dadd C d3_32 (ex2 ▸ X2.nn) ex2 (pc' := 33) rfl ?_
  refine Go.dstoreN C d3_33 (L' := #[.val (.ref a1), .val (.double v), .second, .val (.double x2), .second, .val (.int (1 : Int32))]) rfl (pc' := 34) rfl ?_
  refine Go.iinc C d3_34 rfl (y := (0 : Int32)) rfl (L' := #[.val (.ref a1), .val (.double v), .second, .val (.double x2), .second, .val (.int (0 : Int32))]) rfl (pc' := 37) rfl ?_
  refine Go.goto C d3_37 (by decide) (pc' := 11) (by decide) ?_
  refine Go.iload C d3_11 rfl (pc' := 13) rfl ?_
  refine Go.if_lt_f C d3_13 (by decide) (pc' := 16) rfl ?_
  refine Go.dloadN C d3_16 rfl (pc' := 17) rfl ?_
  refine Go.dloadN C d3_17 rfl (pc' := 18) rfl ?_
  have c2 : ((E2 * M + E1 * ((2 ^ 2 : Nat) : Int)) * M).natAbs ≤ 1071636480 := by rw [Int.natAbs_mul]; exact Nat.le_trans (Nat.mul_le_mul d2 bM) (by decide)
  have D2 : DV (FP.dmul x2 v) ((E2 * M + E1 * ((2 ^ 2 : Nat) : Int)) * M) 4 := (X2.mul Hv (by decide) (Nat.lt_of_le_of_lt c2 (by decide)))
  obtain ⟨m2, em2⟩ : ∃ y, FP.dmul x2 v = y := ⟨_, rfl⟩
  rw [em2] at D2
  refine Go.dmul C d3_18 (em2 ▸ D2.nn) em2 (pc' := 19) rfl ?_
  refine Go.aloadN C d3_19 rfl rfl (pc' := 20) rfl ?_
  refine Go.getF C d3_20 (hw _ (List.mem_of_getElem? (i := 21) rfl)) Via.refl Fo (pc' := 23) rfl ?_
  refine Go.iload C d3_23 rfl (pc' := 25) rfl ?_
  refine Go.daloadV C d3_25 V (by decide) (by decide) (v := .double b0) rfl (pc' := 26) rfl ?_
  refine Go.iload C d3_26 rfl (pc' := 28) rfl ?_
  refine Go.iconst C d3_28 (v := 1) rfl (pc' := 29) rfl ?_
  refine Go.iadd C d3_29 (pc' := 30) rfl ?_
  refine Go.i2d C d3_30 (v := FP.l2d 1) (i2d_w _) (pc' := 31) rfl ?_
  have G2 : DV (FP.ddiv b0 (FP.l2d 1)) E0 0 := DV.div B0 (show DV (FP.l2d 1) 1 0 from DV.of_l2d (a := 1) ⟨by decide, by decide⟩) (by decide) (Nat.lt_of_le_of_lt e0 (by decide))
  obtain ⟨g2, eg2⟩ : ∃ y, FP.ddiv b0 (FP.l2d 1) = y := ⟨_, rfl⟩
  rw [eg2] at G2
  refine Go.ddiv C d3_31 (eg2 ▸ G2.nn) eg2 (pc' := 32) rfl ?_
  have d3 : ((E2 * M + E1 * ((2 ^ 2 : Nat) : Int)) * M + E0 * ((2 ^ 4 : Nat) : Int)).natAbs ≤ 1071640560 := Nat.le_trans (Int.natAbs_add_le _ _) (Nat.le_trans (Nat.add_le_add c2 (by rw [Int.natAbs_mul]; exact Nat.mul_le_mul e0 (Nat.le_refl _))) (by decide))
  have X3 : DV (FP.dadd m2 g2) ((E2 * M + E1 * ((2 ^ 2 : Nat) : Int)) * M + E0 * ((2 ^ 4 : Nat) : Int)) 4 := D2.add (show DV g2 (E0 * ((2 ^ 4 : Nat) : Int)) 4 from by have q := G2.scale 4 (by decide); rwa [Nat.zero_add] at q) (Nat.lt_of_le_of_lt d3 (by decide))
  obtain ⟨x3, ex3⟩ : ∃ y, FP.dadd m2 g2 = y := ⟨_, rfl⟩
  rw [ex3] at X3
  refine Go.dadd C d3_32 (ex3 ▸ X3.nn) ex3 (pc' := 33) rfl ?_
  refine Go.dstoreN C d3_33 (L' := #[.val (.ref a1), .val (.double v), .second, .val (.double x3), .second, .val (.int (0 : Int32))]) rfl (pc' := 34) rfl ?_
  refine Go.iinc C d3_34 rfl (y := (-1 : Int32)) rfl (L' := #[.val (.ref a1), .val (.double v), .second, .val (.double x3), .second, .val (.int (-1 : Int32))]) rfl (pc' := 37) rfl ?_
  refine Go.goto C d3_37 (by decide) (pc' := 11) (by decide) ?_
  refine Go.iload C d3_11 rfl (pc' := 13) rfl ?_
  refine Go.if_lt_t C d3_13 (by decide) (by decide) (pc' := 40) (by decide) ?_
  refine Go.dloadN C d3_40 rfl (pc' := 41) rfl ?_
  refine Go.dloadN C d3_41 rfl (pc' := 42) rfl ?_
  have cF : (((E2 * M + E1 * ((2 ^ 2 : Nat) : Int)) * M + E0 * ((2 ^ 4 : Nat) : Int)) * M).natAbs ≤ 2194719866880 := by rw [Int.natAbs_mul]; exact Nat.le_trans (Nat.mul_le_mul d3 bM) (by decide)
  have XF : DV (FP.dmul x3 v) (((E2 * M + E1 * ((2 ^ 2 : Nat) : Int)) * M + E0 * ((2 ^ 4 : Nat) : Int)) * M) 6 := X3.mul Hv (by decide) (Nat.lt_of_le_of_lt cF (by decide))
  refine Go.dmul C d3_42 XF.nn rfl (pc' := 43) rfl ?_
  refine Go.retD C d3_43 (by decide) (by decide) ?_
  exact ⟨⟨_, rfl, XF⟩, rfl⟩
set_option maxRecDepth 65536 in
set_option maxHeartbeats 40000000 in
theorem rm_int4 (l : Launch) (Z : State) (a0 : Array Value) (hw : ∀ d ∈ tables_1, d.before a0 Z = true) (a1 t : Addr) (kD : ClassId) (v : UInt64) (M : Int) (b0 b1 b2 b3 : UInt64) (E0 E1 E2 E3 : Int) (h0 : Heap) (n0 : Nat) (Fo : Fld Z h0 a1 "com/example/junctura/junctura/model/PolynomialCost" "coefficients" "[D" (.ref t)) (V : Arv Z h0 t kD .double (4 : Int32) [.double b0, .double b1, .double b2, .double b3] (.double 0)) (Hv : DV v M 2) (bM : M.natAbs ≤ 2048) (B0 : DV b0 (E0 * 1) 0) (e0 : E0.natAbs ≤ 255) (B1 : DV b1 (E1 * 2) 0) (e1 : E1.natAbs ≤ 255) (B2 : DV b2 (E2 * 3) 0) (e2 : E2.natAbs ≤ 255) (B3 : DV b3 (E3 * 4) 0) (e3 : E3.natAbs ≤ 255) :
    Ct l Z (⟨"com/example/junctura/junctura/model/PolynomialCost", "integral", "(D)D"⟩ : MethodName) prog_34_method_5_code 6 (some .double) [] ({ frames := 0, cells := 0, slots := 0, locals := 0 } : Room) #[.ref a1, .double v] h0 n0 (fun r h => (∃ x, r = some (.double x) ∧ DV x ((((E3 * M + E2 * ((2 ^ 2 : Nat) : Int)) * M + E1 * ((2 ^ 4 : Nat) : Int)) * M + E0 * ((2 ^ 6 : Nat) : Int)) * M) 8) ∧ h0 = h) := by
  refine Ct.of (L0 := #[.val (.ref a1), .val (.double v), .second, .unset, .unset, .unset]) (plainFor_of_name pn_com_example_junctura_junctura_model_PolynomialCost) (fun m => by first | (simp [entryFrame, mkF, argsToLocals, Value.category]; done) | rfl) ?_
  intro p e s m below meth c C hnm
  refine Go.dconst0 C d3_0 (v := 0) rfl (pc' := 1) rfl ?_
  refine Go.dstoreN C d3_1 (L' := #[.val (.ref a1), .val (.double v), .second, .val (.double 0), .second, .unset]) rfl (pc' := 2) rfl ?_
  refine Go.aloadN C d3_2 rfl rfl (pc' := 3) rfl ?_
  refine Go.getF C d3_3 (hw _ (List.mem_of_getElem? (i := 21) rfl)) Via.refl Fo (pc' := 6) rfl ?_
  refine Go.arraylengthV C d3_6 V (pc' := 7) rfl ?_
  refine Go.iconst C d3_7 (v := 1) rfl (pc' := 8) rfl ?_
  refine Go.isub C d3_8 (pc' := 9) rfl ?_
  show Go p l e _ s m _ below meth c Z _ n0 _ _ _ _ _ 9 #[.val (.ref a1), .val (.double v), .second, .val (.double 0), .second, .unset] [(.int (3 : Int32))]
  refine Go.istore C d3_9 (L' := #[.val (.ref a1), .val (.double v), .second, .val (.double 0), .second, .val (.int (3 : Int32))]) rfl (pc' := 11) rfl ?_
  refine Go.iload C d3_11 rfl (pc' := 13) rfl ?_
  refine Go.if_lt_f C d3_13 (by decide) (pc' := 16) rfl ?_
  refine Go.dloadN C d3_16 rfl (pc' := 17) rfl ?_
  refine Go.dloadN C d3_17 rfl (pc' := 18) rfl ?_
  have D0 : DV (FP.dmul 0 v) 0 0 := by have q := (DV.zero 0 (by decide)).mul Hv (by decide) (by rw [Int.zero_mul]; decide); rw [Int.zero_mul] at q; exact q.z 0 (by decide)
  obtain ⟨m0, em0⟩ : ∃ y, FP.dmul 0 v = y := ⟨_, rfl⟩
  rw [em0] at D0
  refine Go.dmul C d3_18 (em0 ▸ D0.nn) em0 (pc' := 19) rfl ?_
  refine Go.aloadN C d3_19 rfl rfl (pc' := 20) rfl ?_
  refine Go.getF C d3_20 (hw _ (List.mem_of_getElem? (i := 21) rfl)) Via.refl Fo (pc' := 23) rfl ?_
  refine Go.iload C d3_23 rfl (pc' := 25) rfl ?_
  refine Go.daloadV C d3_25 V (by decide) (by decide) (v := .double b3) rfl (pc' := 26) rfl ?_
  refine Go.iload C d3_26 rfl (pc' := 28) rfl ?_
  refine Go.iconst C d3_28 (v := 1) rfl (pc' := 29) rfl ?_
  refine Go.iadd C d3_29 (pc' := 30) rfl ?_
  refine Go.i2d C d3_30 (v := FP.l2d 4) (i2d_w _) (pc' := 31) rfl ?_
  have G0 : DV (FP.ddiv b3 (FP.l2d 4)) E3 0 := DV.div B3 (show DV (FP.l2d 4) 4 0 from DV.of_l2d (a := 4) ⟨by decide, by decide⟩) (by decide) (Nat.lt_of_le_of_lt e3 (by decide))
  obtain ⟨g0, eg0⟩ : ∃ y, FP.ddiv b3 (FP.l2d 4) = y := ⟨_, rfl⟩
  rw [eg0] at G0
  refine Go.ddiv C d3_31 (eg0 ▸ G0.nn) eg0 (pc' := 32) rfl ?_
  have d1 : E3.natAbs ≤ 255 := e3
  have X1 : DV (FP.dadd m0 g0) E3 0 := by have q := D0.add G0 (by rw [Int.zero_add]; exact Nat.lt_of_le_of_lt d1 (by decide)); rwa [Int.zero_add] at q
  obtain ⟨x1, ex1⟩ : ∃ y, FP.dadd m0 g0 = y := ⟨_, rfl⟩
  rw [ex1] at X1
  refine Go.dadd C d3_32 (ex1 ▸ X1.nn) ex1 (pc' := 33) rfl ?_
  refine Go.dstoreN C d3_33 (L' := #[.val (.ref a1), .val (.double v), .second, .val (.double x1), .second, .val (.int (3 : Int32))]) rfl (pc' := 34) rfl ?_
  refine Go.iinc C d3_34 rfl (y := (2 : Int32)) rfl (L' := #[.val (.ref a1), .val (.double v), .second, .val (.double x1), .second, .val (.int (2 : Int32))]) rfl (pc' := 37) rfl ?_
  refine Go.goto C d3_37 (by decide) (pc' := 11) (by decide) ?_
  refine Go.iload C d3_11 rfl (pc' := 13) rfl ?_
  refine Go.if_lt_f C d3_13 (by decide) (pc' := 16) rfl ?_
  refine Go.dloadN C d3_16 rfl (pc' := 17) rfl ?_
  refine Go.dloadN C d3_17 rfl (pc' := 18) rfl ?_
  have c1 : (E3 * M).natAbs ≤ 522240 := by rw [Int.natAbs_mul]; exact Nat.le_trans (Nat.mul_le_mul d1 bM) (by decide)
  have D1 : DV (FP.dmul x1 v) (E3 * M) 2 := (X1.mul Hv (by decide) (Nat.lt_of_le_of_lt c1 (by decide)))
  obtain ⟨m1, em1⟩ : ∃ y, FP.dmul x1 v = y := ⟨_, rfl⟩
  rw [em1] at D1
  refine Go.dmul C d3_18 (em1 ▸ D1.nn) em1 (pc' := 19) rfl ?_
  refine Go.aloadN C d3_19 rfl rfl (pc' := 20) rfl ?_
  refine Go.getF C d3_20 (hw _ (List.mem_of_getElem? (i := 21) rfl)) Via.refl Fo (pc' := 23) rfl ?_
  refine Go.iload C d3_23 rfl (pc' := 25) rfl ?_
  refine Go.daloadV C d3_25 V (by decide) (by decide) (v := .double b2) rfl (pc' := 26) rfl ?_
  refine Go.iload C d3_26 rfl (pc' := 28) rfl ?_
  refine Go.iconst C d3_28 (v := 1) rfl (pc' := 29) rfl ?_
  refine Go.iadd C d3_29 (pc' := 30) rfl ?_
  refine Go.i2d C d3_30 (v := FP.l2d 3) (i2d_w _) (pc' := 31) rfl ?_
  have G1 : DV (FP.ddiv b2 (FP.l2d 3)) E2 0 := DV.div B2 (show DV (FP.l2d 3) 3 0 from DV.of_l2d (a := 3) ⟨by decide, by decide⟩) (by decide) (Nat.lt_of_le_of_lt e2 (by decide))
  obtain ⟨g1, eg1⟩ : ∃ y, FP.ddiv b2 (FP.l2d 3) = y := ⟨_, rfl⟩
  rw [eg1] at G1
  refine Go.ddiv C d3_31 (eg1 ▸ G1.nn) eg1 (pc' := 32) rfl ?_
  have d2 : (E3 * M + E2 * ((2 ^ 2 : Nat) : Int)).natAbs ≤ 523260 := Nat.le_trans (Int.natAbs_add_le _ _) (Nat.le_trans (Nat.add_le_add c1 (by rw [Int.natAbs_mul]; exact Nat.mul_le_mul e2 (Nat.le_refl _))) (by decide))
  have X2 : DV (FP.dadd m1 g1) (E3 * M + E2 * ((2 ^ 2 : Nat) : Int)) 2 := D1.add (show DV g1 (E2 * ((2 ^ 2 : Nat) : Int)) 2 from by have q := G1.scale 2 (by decide); rwa [Nat.zero_add] at q) (Nat.lt_of_le_of_lt d2 (by decide))
  obtain ⟨x2, ex2⟩ : ∃ y, FP.dadd m1 g1 = y := ⟨_, rfl⟩
  rw [ex2] at X2
  refine Go.dadd C d3_32 (ex2 ▸ X2.nn) ex2 (pc' := 33) rfl ?_
  refine Go.dstoreN C d3_33 (L' := #[.val (.ref a1), .val (.double v), .second, .val (.double x2), .second, .val (.int (2 : Int32))]) rfl (pc' := 34) rfl ?_
  refine Go.iinc C d3_34 rfl (y := (1 : Int32)) rfl (L' := #[.val (.ref a1), .val (.double v), .second, .val (.double x2), .second, .val (.int (1 : Int32))]) rfl (pc' := 37) rfl ?_
  refine Go.goto C d3_37 (by decide) (pc' := 11) (by decide) ?_
  refine Go.iload C d3_11 rfl (pc' := 13) rfl ?_
  refine Go.if_lt_f C d3_13 (by decide) (pc' := 16) rfl ?_
  refine Go.dloadN C d3_16 rfl (pc' := 17) rfl ?_
  refine Go.dloadN C d3_17 rfl (pc' := 18) rfl ?_
  have c2 : ((E3 * M + E2 * ((2 ^ 2 : Nat) : Int)) * M).natAbs ≤ 1071636480 := by rw [Int.natAbs_mul]; exact Nat.le_trans (Nat.mul_le_mul d2 bM) (by decide)
  have D2 : DV (FP.dmul x2 v) ((E3 * M + E2 * ((2 ^ 2 : Nat) : Int)) * M) 4 := (X2.mul Hv (by decide) (Nat.lt_of_le_of_lt c2 (by decide)))
  obtain ⟨m2, em2⟩ : ∃ y, FP.dmul x2 v = y := ⟨_, rfl⟩
  rw [em2] at D2
  refine Go.dmul C d3_18 (em2 ▸ D2.nn) em2 (pc' := 19) rfl ?_
  refine Go.aloadN C d3_19 rfl rfl (pc' := 20) rfl ?_
  refine Go.getF C d3_20 (hw _ (List.mem_of_getElem? (i := 21) rfl)) Via.refl Fo (pc' := 23) rfl ?_
  refine Go.iload C d3_23 rfl (pc' := 25) rfl ?_
  refine Go.daloadV C d3_25 V (by decide) (by decide) (v := .double b1) rfl (pc' := 26) rfl ?_
  refine Go.iload C d3_26 rfl (pc' := 28) rfl ?_
  refine Go.iconst C d3_28 (v := 1) rfl (pc' := 29) rfl ?_
  refine Go.iadd C d3_29 (pc' := 30) rfl ?_
  refine Go.i2d C d3_30 (v := FP.l2d 2) (i2d_w _) (pc' := 31) rfl ?_
  have G2 : DV (FP.ddiv b1 (FP.l2d 2)) E1 0 := DV.div B1 (show DV (FP.l2d 2) 2 0 from DV.of_l2d (a := 2) ⟨by decide, by decide⟩) (by decide) (Nat.lt_of_le_of_lt e1 (by decide))
  obtain ⟨g2, eg2⟩ : ∃ y, FP.ddiv b1 (FP.l2d 2) = y := ⟨_, rfl⟩
  rw [eg2] at G2
  refine Go.ddiv C d3_31 (eg2 ▸ G2.nn) eg2 (pc' := 32) rfl ?_
  have d3 : ((E3 * M + E2 * ((2 ^ 2 : Nat) : Int)) * M + E1 * ((2 ^ 4 : Nat) : Int)).natAbs ≤ 1071640560 := Nat.le_trans (Int.natAbs_add_le _ _) (Nat.le_trans (Nat.add_le_add c2 (by rw [Int.natAbs_mul]; exact Nat.mul_le_mul e1 (Nat.le_refl _))) (by decide))
  have X3 : DV (FP.dadd m2 g2) ((E3 * M + E2 * ((2 ^ 2 : Nat) : Int)) * M + E1 * ((2 ^ 4 : Nat) : Int)) 4 := D2.add (show DV g2 (E1 * ((2 ^ 4 : Nat) : Int)) 4 from by have q := G2.scale 4 (by decide); rwa [Nat.zero_add] at q) (Nat.lt_of_le_of_lt d3 (by decide))
  obtain ⟨x3, ex3⟩ : ∃ y, FP.dadd m2 g2 = y := ⟨_, rfl⟩
  rw [ex3] at X3
  refine Go.dadd C d3_32 (ex3 ▸ X3.nn) ex3 (pc' := 33) rfl ?_
  refine Go.dstoreN C d3_33 (L' := #[.val (.ref a1), .val (.double v), .second, .val (.double x3), .second, .val (.int (1 : Int32))]) rfl (pc' := 34) rfl ?_
  refine Go.iinc C d3_34 rfl (y := (0 : Int32)) rfl (L' := #[.val (.ref a1), .val (.double v), .second, .val (.double x3), .second, .val (.int (0 : Int32))]) rfl (pc' := 37) rfl ?_
  refine Go.goto C d3_37 (by decide) (pc' := 11) (by decide) ?_
  refine Go.iload C d3_11 rfl (pc' := 13) rfl ?_
  refine Go.if_lt_f C d3_13 (by decide) (pc' := 16) rfl ?_
  refine Go.dloadN C d3_16 rfl (pc' := 17) rfl ?_
  refine Go.dloadN C d3_17 rfl (pc' := 18) rfl ?_
  have c3 : (((E3 * M + E2 * ((2 ^ 2 : Nat) : Int)) * M + E1 * ((2 ^ 4 : Nat) : Int)) * M).natAbs ≤ 2194719866880 := by rw [Int.natAbs_mul]; exact Nat.le_trans (Nat.mul_le_mul d3 bM) (by decide)
  have D3 : DV (FP.dmul x3 v) (((E3 * M + E2 * ((2 ^ 2 : Nat) : Int)) * M + E1 * ((2 ^ 4 : Nat) : Int)) * M) 6 := (X3.mul Hv (by decide) (Nat.lt_of_le_of_lt c3 (by decide)))
  obtain ⟨m3, em3⟩ : ∃ y, FP.dmul x3 v = y := ⟨_, rfl⟩
  rw [em3] at D3
  refine Go.dmul C d3_18 (em3 ▸ D3.nn) em3 (pc' := 19) rfl ?_
  refine Go.aloadN C d3_19 rfl rfl (pc' := 20) rfl ?_
  refine Go.getF C d3_20 (hw _ (List.mem_of_getElem? (i := 21) rfl)) Via.refl Fo (pc' := 23) rfl ?_
  refine Go.iload C d3_23 rfl (pc' := 25) rfl ?_
  refine Go.daloadV C d3_25 V (by decide) (by decide) (v := .double b0) rfl (pc' := 26) rfl ?_
  refine Go.iload C d3_26 rfl (pc' := 28) rfl ?_
  refine Go.iconst C d3_28 (v := 1) rfl (pc' := 29) rfl ?_
  refine Go.iadd C d3_29 (pc' := 30) rfl ?_
  refine Go.i2d C d3_30 (v := FP.l2d 1) (i2d_w _) (pc' := 31) rfl ?_
  have G3 : DV (FP.ddiv b0 (FP.l2d 1)) E0 0 := DV.div B0 (show DV (FP.l2d 1) 1 0 from DV.of_l2d (a := 1) ⟨by decide, by decide⟩) (by decide) (Nat.lt_of_le_of_lt e0 (by decide))
  obtain ⟨g3, eg3⟩ : ∃ y, FP.ddiv b0 (FP.l2d 1) = y := ⟨_, rfl⟩
  rw [eg3] at G3
  refine Go.ddiv C d3_31 (eg3 ▸ G3.nn) eg3 (pc' := 32) rfl ?_
  have d4 : (((E3 * M + E2 * ((2 ^ 2 : Nat) : Int)) * M + E1 * ((2 ^ 4 : Nat) : Int)) * M + E0 * ((2 ^ 6 : Nat) : Int)).natAbs ≤ 2194719883200 := Nat.le_trans (Int.natAbs_add_le _ _) (Nat.le_trans (Nat.add_le_add c3 (by rw [Int.natAbs_mul]; exact Nat.mul_le_mul e0 (Nat.le_refl _))) (by decide))
  have X4 : DV (FP.dadd m3 g3) (((E3 * M + E2 * ((2 ^ 2 : Nat) : Int)) * M + E1 * ((2 ^ 4 : Nat) : Int)) * M + E0 * ((2 ^ 6 : Nat) : Int)) 6 := D3.add (show DV g3 (E0 * ((2 ^ 6 : Nat) : Int)) 6 from by have q := G3.scale 6 (by decide); rwa [Nat.zero_add] at q) (Nat.lt_of_le_of_lt d4 (by decide))
  obtain ⟨x4, ex4⟩ : ∃ y, FP.dadd m3 g3 = y := ⟨_, rfl⟩
  rw [ex4] at X4
  refine Go.dadd C d3_32 (ex4 ▸ X4.nn) ex4 (pc' := 33) rfl ?_
  refine Go.dstoreN C d3_33 (L' := #[.val (.ref a1), .val (.double v), .second, .val (.double x4), .second, .val (.int (0 : Int32))]) rfl (pc' := 34) rfl ?_
  refine Go.iinc C d3_34 rfl (y := (-1 : Int32)) rfl (L' := #[.val (.ref a1), .val (.double v), .second, .val (.double x4), .second, .val (.int (-1 : Int32))]) rfl (pc' := 37) rfl ?_
  refine Go.goto C d3_37 (by decide) (pc' := 11) (by decide) ?_
  refine Go.iload C d3_11 rfl (pc' := 13) rfl ?_
  refine Go.if_lt_t C d3_13 (by decide) (by decide) (pc' := 40) (by decide) ?_
  refine Go.dloadN C d3_40 rfl (pc' := 41) rfl ?_
  refine Go.dloadN C d3_41 rfl (pc' := 42) rfl ?_
  have cF : ((((E3 * M + E2 * ((2 ^ 2 : Nat) : Int)) * M + E1 * ((2 ^ 4 : Nat) : Int)) * M + E0 * ((2 ^ 6 : Nat) : Int)) * M).natAbs ≤ 4494786320793600 := by rw [Int.natAbs_mul]; exact Nat.le_trans (Nat.mul_le_mul d4 bM) (by decide)
  have XF : DV (FP.dmul x4 v) ((((E3 * M + E2 * ((2 ^ 2 : Nat) : Int)) * M + E1 * ((2 ^ 4 : Nat) : Int)) * M + E0 * ((2 ^ 6 : Nat) : Int)) * M) 8 := X4.mul Hv (by decide) (Nat.lt_of_le_of_lt cF (by decide))
  refine Go.dmul C d3_42 XF.nn rfl (pc' := 43) rfl ?_
  refine Go.retD C d3_43 (by decide) (by decide) ?_
  exact ⟨⟨_, rfl, XF⟩, rfl⟩
set_option maxRecDepth 65536 in
set_option maxHeartbeats 40000000 in
theorem rm_law (l : Launch) (Z : State) (a0 : Array Value) (hw : ∀ d ∈ tables_1, d.before a0 Z = true) (x0 x1 x2 x3 x4 x5 : Int32) (h0 : Heap) (n0 : Nat) (Z0 : n0 ≤ h0.size) :
    Ct l Z x code 28 (some .boolean) tables_1 room_1 #[.int x0, .int x1, .int x2, .int x3, .int x4, .int x5] h0 n0 (fun v _ => v = some (.int 1)) := by
  refine Ct.of (L0 := #[.val (.int x0), .val (.int x1), .val (.int x2), .val (.int x3), .val (.int x4), .val (.int x5), .unset, .unset, .unset, .unset, .unset, .unset, .unset, .unset, .unset, .unset, .unset, .unset, .unset, .unset, .unset, .unset, .unset, .unset, .unset, .unset, .unset, .unset]) (plainFor_of_name pn_com_example_junctura_junctura_model_PolynomialCostIntegralPinLaw) (fun m => by first | (simp [entryFrame, mkF, argsToLocals, Value.category]; done) | rfl) ?_
  intro p e s m below meth c C hnm
  have bm := own_shift x1
  rcases own_and3 x0 with ek | ek | ek | ek
  · -- 1 coefficient(s)
    refine Go.iconst C at_0 (v := 1) rfl (pc' := 1) rfl ?_
    refine Go.iloadN C at_1 rfl (pc' := 2) rfl ?_
    refine Go.iconst C at_2 (v := 3) rfl (pc' := 3) rfl ?_
    refine Go.iand C at_3 (pc' := 4) rfl ?_
    rw [ek]
    show Go p l e room_1 s m #[.int x0, .int x1, .int x2, .int x3, .int x4, .int x5] below meth c Z "com/example/junctura/junctura/model/PolynomialCostIntegralPinLaw" n0 (Bn s) (EnN s room_1 n0 (fun v _ => v = some (.int 1))) _ _ _ 4 #[.val (.int x0), .val (.int x1), .val (.int x2), .val (.int x3), .val (.int x4), .val (.int x5), .unset, .unset, .unset, .unset, .unset, .unset, .unset, .unset, .unset, .unset, .unset, .unset, .unset, .unset, .unset, .unset, .unset, .unset, .unset, .unset, .unset, .unset] [(.int (0 : Int32)), (.int (1 : Int32))]
    refine Go.iadd C at_4 (pc' := 5) rfl ?_
    show Go p l e room_1 s m #[.int x0, .int x1, .int x2, .int x3, .int x4, .int x5] below meth c Z "com/example/junctura/junctura/model/PolynomialCostIntegralPinLaw" n0 (Bn s) (EnN s room_1 n0 (fun v _ => v = some (.int 1))) _ _ _ 5 #[.val (.int x0), .val (.int x1), .val (.int x2), .val (.int x3), .val (.int x4), .val (.int x5), .unset, .unset, .unset, .unset, .unset, .unset, .unset, .unset, .unset, .unset, .unset, .unset, .unset, .unset, .unset, .unset, .unset, .unset, .unset, .unset, .unset, .unset] [(.int (1 : Int32))]
    refine Go.istore C at_5 (L' := #[.val (.int x0), .val (.int x1), .val (.int x2), .val (.int x3), .val (.int x4), .val (.int x5), .val (.int (1 : Int32)), .unset, .unset, .unset, .unset, .unset, .unset, .unset, .unset, .unset, .unset, .unset, .unset, .unset, .unset, .unset, .unset, .unset, .unset, .unset, .unset, .unset]) rfl (pc' := 7) rfl ?_
    refine Go.iloadN C at_7 rfl (pc' := 8) rfl ?_
    refine Go.sipush C at_8 (v := 255) rfl (pc' := 11) rfl ?_
    refine Go.iand C at_11 (pc' := 12) rfl ?_
    refine Go.i2l C at_12 (pc' := 13) rfl ?_
    refine Go.lstore C at_13 (L' := #[.val (.int x0), .val (.int x1), .val (.int x2), .val (.int x3), .val (.int x4), .val (.int x5), .val (.int (1 : Int32)), .val (.long (x2 &&& (255 : Int32)).toInt64), .second, .unset, .unset, .unset, .unset, .unset, .unset, .unset, .unset, .unset, .unset, .unset, .unset, .unset, .unset, .unset, .unset, .unset, .unset, .unset]) rfl (pc' := 15) rfl ?_
    refine Go.iload C at_15 rfl (pc' := 17) rfl ?_
    refine Go.iconst C at_17 (v := 1) rfl (pc' := 18) rfl ?_
    refine Go.icmp_le_t C at_18 (by decide) (by decide) (pc' := 30) (by decide) ?_
    refine Go.lconst C at_30 (v := 0) rfl (pc' := 31) rfl ?_
    refine Go.lstore C at_31 (L' := #[.val (.int x0), .val (.int x1), .val (.int x2), .val (.int x3), .val (.int x4), .val (.int x5), .val (.int (1 : Int32)), .val (.long (x2 &&& (255 : Int32)).toInt64), .second, .val (.long (0 : Int64)), .second, .unset, .unset, .unset, .unset, .unset, .unset, .unset, .unset, .unset, .unset, .unset, .unset, .unset, .unset, .unset, .unset, .unset]) rfl (pc' := 33) rfl ?_
    refine Go.iload C at_33 rfl (pc' := 35) rfl ?_
    refine Go.iconst C at_35 (v := 2) rfl (pc' := 36) rfl ?_
    refine Go.icmp_le_t C at_36 (by decide) (by decide) (pc' := 49) (by decide) ?_
    refine Go.lconst C at_49 (v := 0) rfl (pc' := 50) rfl ?_
    refine Go.lstore C at_50 (L' := #[.val (.int x0), .val (.int x1), .val (.int x2), .val (.int x3), .val (.int x4), .val (.int x5), .val (.int (1 : Int32)), .val (.long (x2 &&& (255 : Int32)).toInt64), .second, .val (.long (0 : Int64)), .second, .val (.long (0 : Int64)), .second, .unset, .unset, .unset, .unset, .unset, .unset, .unset, .unset, .unset, .unset, .unset, .unset, .unset, .unset, .unset]) rfl (pc' := 52) rfl ?_
    refine Go.iload C at_52 rfl (pc' := 54) rfl ?_
    refine Go.iconst C at_54 (v := 3) rfl (pc' := 55) rfl ?_
    refine Go.icmp_le_t C at_55 (by decide) (by decide) (pc' := 68) (by decide) ?_
    refine Go.lconst C at_68 (v := 0) rfl (pc' := 69) rfl ?_
    refine Go.lstore C at_69 (L' := #[.val (.int x0), .val (.int x1), .val (.int x2), .val (.int x3), .val (.int x4), .val (.int x5), .val (.int (1 : Int32)), .val (.long (x2 &&& (255 : Int32)).toInt64), .second, .val (.long (0 : Int64)), .second, .val (.long (0 : Int64)), .second, .val (.long (0 : Int64)), .second, .unset, .unset, .unset, .unset, .unset, .unset, .unset, .unset, .unset, .unset, .unset, .unset, .unset]) rfl (pc' := 71) rfl ?_
    refine Go.iload C at_71 rfl (pc' := 73) rfl ?_
    refine Go.newPVE C bnE at_73 (hw _ (List.mem_of_getElem? (i := 0) rfl)) (by decide) (cap := 1) (by decide) (by decide) (by decide) (by decide) (pc' := 75) rfl (dv := .double 0) rfl (ad := "[D") (by decide) ?_
    intro h1 kD E1 V1 T1
    obtain ⟨ta, e_ta⟩ : ∃ a, a = h0.size := ⟨_, rfl⟩
    rw [← e_ta] at V1 T1 ⊢
    have nta : n0 ≤ ta := e_ta ▸ Z0
    show Go p l e room_1 s m #[.int x0, .int x1, .int x2, .int x3, .int x4, .int x5] below meth c Z "com/example/junctura/junctura/model/PolynomialCostIntegralPinLaw" n0 (Bn s) (EnN s room_1 n0 (fun v _ => v = some (.int 1))) _ _ _ 75 #[.val (.int x0), .val (.int x1), .val (.int x2), .val (.int x3), .val (.int x4), .val (.int x5), .val (.int (1 : Int32)), .val (.long (x2 &&& (255 : Int32)).toInt64), .second, .val (.long (0 : Int64)), .second, .val (.long (0 : Int64)), .second, .val (.long (0 : Int64)), .second, .unset, .unset, .unset, .unset, .unset, .unset, .unset, .unset, .unset, .unset, .unset, .unset, .unset] [(.ref ta)]
    refine Go.astore C at_75 rfl (L' := #[.val (.int x0), .val (.int x1), .val (.int x2), .val (.int x3), .val (.int x4), .val (.int x5), .val (.int (1 : Int32)), .val (.long (x2 &&& (255 : Int32)).toInt64), .second, .val (.long (0 : Int64)), .second, .val (.long (0 : Int64)), .second, .val (.long (0 : Int64)), .second, .val (.ref ta), .unset, .unset, .unset, .unset, .unset, .unset, .unset, .unset, .unset, .unset, .unset, .unset]) rfl (pc' := 77) rfl ?_
    refine Go.aload C at_77 rfl rfl (pc' := 79) rfl ?_
    refine Go.iconst C at_79 (v := 0) rfl (pc' := 80) rfl ?_
    refine Go.lload C at_80 rfl (pc' := 82) rfl ?_
    refine Go.l2d C at_82 (v := FP.l2d (x2 &&& (255 : Int32)).toInt64) rfl (pc' := 83) rfl ?_
    refine Go.dastoreV C at_83 V1 (by decide) (by decide) 0 (by decide) (Nat.le_of_ble_eq_true rfl) nta (fun _ _ _ q => q) (pc' := 84) rfl ?_
    intro h2 W2 V2
    have T2 := T1.wr W2
    refine Go.iload C at_84 rfl (pc' := 86) rfl ?_
    refine Go.iconst C at_86 (v := 1) rfl (pc' := 87) rfl ?_
    refine Go.icmp_le_t C at_87 (by decide) (by decide) (pc' := 101) (by decide) ?_
    refine Go.iload C at_101 rfl (pc' := 103) rfl ?_
    refine Go.iconst C at_103 (v := 2) rfl (pc' := 104) rfl ?_
    refine Go.icmp_le_t C at_104 (by decide) (by decide) (pc' := 118) (by decide) ?_
    refine Go.iload C at_118 rfl (pc' := 120) rfl ?_
    refine Go.iconst C at_120 (v := 3) rfl (pc' := 121) rfl ?_
    refine Go.icmp_le_t C at_121 (by decide) (by decide) (pc' := 135) (by decide) ?_
    refine Go.iloadN C at_135 rfl (pc' := 136) rfl ?_
    refine Go.bipush C at_136 (v := 20) rfl (pc' := 138) rfl ?_
    refine Go.ishl C at_138 (pc' := 139) rfl ?_
    refine Go.bipush C at_139 (v := 20) rfl (pc' := 141) rfl ?_
    refine Go.ishr C at_141 (pc' := 142) rfl ?_
    refine Go.istore C at_142 (L' := #[.val (.int x0), .val (.int x1), .val (.int x2), .val (.int x3), .val (.int x4), .val (.int x5), .val (.int (1 : Int32)), .val (.long (x2 &&& (255 : Int32)).toInt64), .second, .val (.long (0 : Int64)), .second, .val (.long (0 : Int64)), .second, .val (.long (0 : Int64)), .second, .val (.ref ta), .val (.int ((x1 <<< ((20 : Int32) &&& 31)) >>> ((20 : Int32) &&& 31))), .unset, .unset, .unset, .unset, .unset, .unset, .unset, .unset, .unset, .unset, .unset]) rfl (pc' := 144) rfl ?_
    refine Go.iload C at_144 rfl (pc' := 146) rfl ?_
    generalize ((x1 <<< ((20 : Int32) &&& 31)) >>> ((20 : Int32) &&& 31)) = mi at bm ⊢
    show Go p l e room_1 s m #[.int x0, .int x1, .int x2, .int x3, .int x4, .int x5] below meth c Z "com/example/junctura/junctura/model/PolynomialCostIntegralPinLaw" n0 (Bn s) (EnN s room_1 n0 (fun v _ => v = some (.int 1))) _ _ _ 146 #[.val (.int x0), .val (.int x1), .val (.int x2), .val (.int x3), .val (.int x4), .val (.int x5), .val (.int (1 : Int32)), .val (.long (x2 &&& (255 : Int32)).toInt64), .second, .val (.long (0 : Int64)), .second, .val (.long (0 : Int64)), .second, .val (.long (0 : Int64)), .second, .val (.ref ta), .val (.int mi), .unset, .unset, .unset, .unset, .unset, .unset, .unset, .unset, .unset, .unset, .unset] [(.int mi)]
    refine Go.i2d C at_146 (v := FP.l2d mi.toInt64) (i2d_w _) (pc' := 147) rfl ?_
    refine Go.ldc2Double C at_147 (hw _ (List.mem_of_getElem? (i := 1) rfl)) (pc' := 150) rfl ?_
    have Hv : DV (FP.ddiv (FP.l2d mi.toInt64) 4616189618054758400) mi.toInt 2 := own_quarter mi bm
    obtain ⟨v, ev⟩ : ∃ y, FP.ddiv (FP.l2d mi.toInt64) 4616189618054758400 = y := ⟨_, rfl⟩
    rw [ev] at Hv
    refine Go.ddiv C at_150 (ev ▸ Hv.nn) ev (pc' := 151) rfl ?_
    refine Go.dstore C at_151 (L' := #[.val (.int x0), .val (.int x1), .val (.int x2), .val (.int x3), .val (.int x4), .val (.int x5), .val (.int (1 : Int32)), .val (.long (x2 &&& (255 : Int32)).toInt64), .second, .val (.long (0 : Int64)), .second, .val (.long (0 : Int64)), .second, .val (.long (0 : Int64)), .second, .val (.ref ta), .val (.int mi), .val (.double v), .second, .unset, .unset, .unset, .unset, .unset, .unset, .unset, .unset, .unset]) rfl (pc' := 153) rfl ?_
    refine Go.newO C bnE at_153 (hw _ (List.mem_of_getElem? (i := 2) rfl)) (hw _ (List.mem_of_getElem? (i := 3) rfl)) (hw _ (List.mem_of_getElem? (i := 4) rfl)) (by decide) (by decide) (pc' := 156) rfl ?_
    intro h9 E9 A9 D9 U9
    obtain ⟨oa, e_oa⟩ : ∃ a, a = h2.size := ⟨_, rfl⟩
    rw [← e_oa] at A9 D9 U9 ⊢
    show Go p l e room_1 s m #[.int x0, .int x1, .int x2, .int x3, .int x4, .int x5] below meth c Z "com/example/junctura/junctura/model/PolynomialCostIntegralPinLaw" n0 (Bn s) (EnN s room_1 n0 (fun v _ => v = some (.int 1))) _ _ _ 156 #[.val (.int x0), .val (.int x1), .val (.int x2), .val (.int x3), .val (.int x4), .val (.int x5), .val (.int (1 : Int32)), .val (.long (x2 &&& (255 : Int32)).toInt64), .second, .val (.long (0 : Int64)), .second, .val (.long (0 : Int64)), .second, .val (.long (0 : Int64)), .second, .val (.ref ta), .val (.int mi), .val (.double v), .second, .unset, .unset, .unset, .unset, .unset, .unset, .unset, .unset, .unset] [(.ref oa)]
    have noa : n0 ≤ oa := e_oa ▸ Nat.le_trans Z0 (Nat.le_trans E1.1 (own_sz1 W2))
    have F9 := D9 (Or.inr (hw _ (List.mem_of_getElem? (i := 22) rfl))) (ty := (.array .double)) (by decide)
    have V9 := V2.ext E9
    have T9 := T2.ext E9
    have B0 := own_coef0 x2
    refine Go.dup C at_156 rfl (pc' := 157) rfl ?_
    refine Go.aload C at_157 rfl rfl (pc' := 159) rfl ?_
    refine Go.callN C at_159 rfl (hw _ (List.mem_of_getElem? (i := 5) rfl)) (hw _ (List.mem_of_getElem? (i := 6) rfl)) (hw _ (List.mem_of_getElem? (i := 7) rfl)) (by decide) (argsL := [(.ref ta)]) (rest := [(.ref oa)]) rfl (lenOf pd___D_V rfl) rfl (W := 1) (Nat.le_of_ble_eq_true rfl) (Ct.pay (rm_pc1 l Z a0 hw oa ta kD _ (FP.l2d (x2 &&& (255 : Int32)).toInt64) h9 n0 noa A9 F9 V9 T9 B0.2.2.1 B0.2.2.2) (hw _ (List.mem_of_getElem? (i := 7) rfl)) (hw _ (List.mem_of_getElem? (i := 4) rfl)) (by decide) (by decide)) (fun _ _ _ q => q.2) (by decide) (by decide) (fun _ _ _ _ _ q => q) (pc' := 162) rfl ?_
    rintro _ h10 L10 ⟨⟨rfl, K10, A10, t', F10, V10⟩, -⟩
    show Go p l e room_1 s m #[.int x0, .int x1, .int x2, .int x3, .int x4, .int x5] below meth c Z "com/example/junctura/junctura/model/PolynomialCostIntegralPinLaw" n0 (Bn s) (EnN s room_1 n0 (fun v _ => v = some (.int 1))) _ _ _ 162 #[.val (.int x0), .val (.int x1), .val (.int x2), .val (.int x3), .val (.int x4), .val (.int x5), .val (.int (1 : Int32)), .val (.long (x2 &&& (255 : Int32)).toInt64), .second, .val (.long (0 : Int64)), .second, .val (.long (0 : Int64)), .second, .val (.long (0 : Int64)), .second, .val (.ref ta), .val (.int mi), .val (.double v), .second, .unset, .unset, .unset, .unset, .unset, .unset, .unset, .unset, .unset] [(.ref oa)]
    refine Go.astore C at_162 rfl (L' := #[.val (.int x0), .val (.int x1), .val (.int x2), .val (.int x3), .val (.int x4), .val (.int x5), .val (.int (1 : Int32)), .val (.long (x2 &&& (255 : Int32)).toInt64), .second, .val (.long (0 : Int64)), .second, .val (.long (0 : Int64)), .second, .val (.long (0 : Int64)), .second, .val (.ref ta), .val (.int mi), .val (.double v), .second, .val (.ref oa), .unset, .unset, .unset, .unset, .unset, .unset, .unset, .unset]) rfl (pc' := 164) rfl ?_
    refine Go.aload C at_164 rfl rfl (pc' := 166) rfl ?_
    refine Go.dload C at_166 rfl (pc' := 168) rfl ?_
    refine Go.callV C at_168 (hw _ (List.mem_of_getElem? (i := 23) rfl)) (hw _ (List.mem_of_getElem? (i := 24) rfl)) (hw _ (List.mem_of_getElem? (i := 26) rfl)) (hw _ (List.mem_of_getElem? (i := 25) rfl)) (fun st hZ => notFace_of_selects (args := #[]) (mvT hZ (hw _ (List.mem_of_getElem? (i := 26) rfl)))) (by decide) A10 (argsL := [(.double v)]) (rest := []) rfl (lenOf pd__D_D rfl) rfl (W := 0) (Nat.le_of_ble_eq_true rfl) (Ct.pay (rm_int1 l Z a0 hw oa t' kD v mi.toInt (FP.l2d (x2 &&& (255 : Int32)).toInt64) (x2 &&& 255).toInt h10 n0 F10 V10 Hv bm B0.1 B0.2.1) (hw _ (List.mem_of_getElem? (i := 27) rfl)) (hw _ (List.mem_of_getElem? (i := 4) rfl)) (by decide) (by decide)) (fun _ _ _ q => q.2) (by decide) (by decide) (fun _ _ _ _ _ q => q) (pc' := 171) rfl ?_
    rintro _ _ L11 ⟨⟨⟨r, rfl, Hr⟩, rfl⟩, -⟩
    show Go p l e room_1 s m #[.int x0, .int x1, .int x2, .int x3, .int x4, .int x5] below meth c Z "com/example/junctura/junctura/model/PolynomialCostIntegralPinLaw" n0 (Bn s) (EnN s room_1 n0 (fun v _ => v = some (.int 1))) _ _ _ 171 #[.val (.int x0), .val (.int x1), .val (.int x2), .val (.int x3), .val (.int x4), .val (.int x5), .val (.int (1 : Int32)), .val (.long (x2 &&& (255 : Int32)).toInt64), .second, .val (.long (0 : Int64)), .second, .val (.long (0 : Int64)), .second, .val (.long (0 : Int64)), .second, .val (.ref ta), .val (.int mi), .val (.double v), .second, .val (.ref oa), .unset, .unset, .unset, .unset, .unset, .unset, .unset, .unset] [(.double r)]
    refine Go.dstore C at_171 (L' := #[.val (.int x0), .val (.int x1), .val (.int x2), .val (.int x3), .val (.int x4), .val (.int x5), .val (.int (1 : Int32)), .val (.long (x2 &&& (255 : Int32)).toInt64), .second, .val (.long (0 : Int64)), .second, .val (.long (0 : Int64)), .second, .val (.long (0 : Int64)), .second, .val (.ref ta), .val (.int mi), .val (.double v), .second, .val (.ref oa), .val (.double r), .second, .unset, .unset, .unset, .unset, .unset, .unset]) rfl (pc' := 173) rfl ?_
    refine Go.iload C at_173 rfl (pc' := 175) rfl ?_
    refine Go.i2l C at_175 (pc' := 176) rfl ?_
    refine Go.lstore C at_176 (L' := #[.val (.int x0), .val (.int x1), .val (.int x2), .val (.int x3), .val (.int x4), .val (.int x5), .val (.int (1 : Int32)), .val (.long (x2 &&& (255 : Int32)).toInt64), .second, .val (.long (0 : Int64)), .second, .val (.long (0 : Int64)), .second, .val (.long (0 : Int64)), .second, .val (.ref ta), .val (.int mi), .val (.double v), .second, .val (.ref oa), .val (.double r), .second, .val (.long mi.toInt64), .second, .unset, .unset, .unset, .unset]) rfl (pc' := 178) rfl ?_
    refine Go.lload C at_178 rfl (pc' := 180) rfl ?_
    refine Go.lload C at_180 rfl (pc' := 182) rfl ?_
    refine Go.lmul C at_182 (pc' := 183) rfl ?_
    refine Go.ldc2Long C at_183 (hw _ (List.mem_of_getElem? (i := 28) rfl)) (pc' := 186) rfl ?_
    refine Go.lmul C at_186 (pc' := 187) rfl ?_
    refine Go.lload C at_187 rfl (pc' := 189) rfl ?_
    refine Go.lload C at_189 rfl (pc' := 191) rfl ?_
    refine Go.lmul C at_191 (pc' := 192) rfl ?_
    refine Go.lload C at_192 rfl (pc' := 194) rfl ?_
    refine Go.lmul C at_194 (pc' := 195) rfl ?_
    refine Go.ldc2Long C at_195 (hw _ (List.mem_of_getElem? (i := 29) rfl)) (pc' := 198) rfl ?_
    refine Go.lmul C at_198 (pc' := 199) rfl ?_
    refine Go.ladd C at_199 (pc' := 200) rfl ?_
    refine Go.lload C at_200 rfl (pc' := 202) rfl ?_
    refine Go.lload C at_202 rfl (pc' := 204) rfl ?_
    refine Go.lmul C at_204 (pc' := 205) rfl ?_
    refine Go.lload C at_205 rfl (pc' := 207) rfl ?_
    refine Go.lmul C at_207 (pc' := 208) rfl ?_
    refine Go.lload C at_208 rfl (pc' := 210) rfl ?_
    refine Go.lmul C at_210 (pc' := 211) rfl ?_
    refine Go.ldc2Long C at_211 (hw _ (List.mem_of_getElem? (i := 30) rfl)) (pc' := 214) rfl ?_
    refine Go.lmul C at_214 (pc' := 215) rfl ?_
    refine Go.ladd C at_215 (pc' := 216) rfl ?_
    refine Go.lload C at_216 rfl (pc' := 218) rfl ?_
    refine Go.lload C at_218 rfl (pc' := 220) rfl ?_
    refine Go.lmul C at_220 (pc' := 221) rfl ?_
    refine Go.lload C at_221 rfl (pc' := 223) rfl ?_
    refine Go.lmul C at_223 (pc' := 224) rfl ?_
    refine Go.lload C at_224 rfl (pc' := 226) rfl ?_
    refine Go.lmul C at_226 (pc' := 227) rfl ?_
    refine Go.lload C at_227 rfl (pc' := 229) rfl ?_
    refine Go.lmul C at_229 (pc' := 230) rfl ?_
    refine Go.ladd C at_230 (pc' := 231) rfl ?_
    refine Go.lstore C at_231 (L' := #[.val (.int x0), .val (.int x1), .val (.int x2), .val (.int x3), .val (.int x4), .val (.int x5), .val (.int (1 : Int32)), .val (.long (x2 &&& (255 : Int32)).toInt64), .second, .val (.long (0 : Int64)), .second, .val (.long (0 : Int64)), .second, .val (.long (0 : Int64)), .second, .val (.ref ta), .val (.int mi), .val (.double v), .second, .val (.ref oa), .val (.double r), .second, .val (.long mi.toInt64), .second, .val (.long ((((((x2 &&& (255 : Int32)).toInt64 * mi.toInt64) * (64 : Int64)) + ((((0 : Int64) * mi.toInt64) * mi.toInt64) * (16 : Int64))) + (((((0 : Int64) * mi.toInt64) * mi.toInt64) * mi.toInt64) * (4 : Int64))) + (((((0 : Int64) * mi.toInt64) * mi.toInt64) * mi.toInt64) * mi.toInt64))), .second, .unset, .unset]) rfl (pc' := 233) rfl ?_
    refine Go.lload C at_233 rfl (pc' := 235) rfl ?_
    have Hn := own_num mi bm (own_e x2) own_e0 own_e0 own_e0
    generalize ((((((x2 &&& (255 : Int32)).toInt64 * mi.toInt64) * (64 : Int64)) + ((((0 : Int64) * mi.toInt64) * mi.toInt64) * (16 : Int64))) + (((((0 : Int64) * mi.toInt64) * mi.toInt64) * mi.toInt64) * (4 : Int64))) + (((((0 : Int64) * mi.toInt64) * mi.toInt64) * mi.toInt64) * mi.toInt64)) = nu at Hn ⊢
    show Go p l e room_1 s m #[.int x0, .int x1, .int x2, .int x3, .int x4, .int x5] below meth c Z "com/example/junctura/junctura/model/PolynomialCostIntegralPinLaw" n0 (Bn s) (EnN s room_1 n0 (fun v _ => v = some (.int 1))) _ _ _ 235 #[.val (.int x0), .val (.int x1), .val (.int x2), .val (.int x3), .val (.int x4), .val (.int x5), .val (.int (1 : Int32)), .val (.long (x2 &&& (255 : Int32)).toInt64), .second, .val (.long (0 : Int64)), .second, .val (.long (0 : Int64)), .second, .val (.long (0 : Int64)), .second, .val (.ref ta), .val (.int mi), .val (.double v), .second, .val (.ref oa), .val (.double r), .second, .val (.long mi.toInt64), .second, .val (.long nu), .second, .unset, .unset] [(.long nu)]
    refine Go.l2d C at_235 (v := FP.l2d nu) rfl (pc' := 236) rfl ?_
    refine Go.ldc2Double C at_236 (hw _ (List.mem_of_getElem? (i := 31) rfl)) (pc' := 239) rfl ?_
    have Hx := own_256 nu Hn.1
    refine Go.ddiv C at_239 Hx.nn rfl (pc' := 240) rfl ?_
    refine Go.dstore C at_240 (L' := #[.val (.int x0), .val (.int x1), .val (.int x2), .val (.int x3), .val (.int x4), .val (.int x5), .val (.int (1 : Int32)), .val (.long (x2 &&& (255 : Int32)).toInt64), .second, .val (.long (0 : Int64)), .second, .val (.long (0 : Int64)), .second, .val (.long (0 : Int64)), .second, .val (.ref ta), .val (.int mi), .val (.double v), .second, .val (.ref oa), .val (.double r), .second, .val (.long mi.toInt64), .second, .val (.long nu), .second, .val (.double (FP.ddiv (FP.l2d nu) 4643211215818981376)), .second]) rfl (pc' := 242) rfl ?_
    refine Go.dload C at_242 rfl (pc' := 244) rfl ?_
    refine Go.dload C at_244 rfl (pc' := 246) rfl ?_
    have Hc : FP.dcmp r (FP.ddiv (FP.l2d nu) 4643211215818981376) = some .eq := DV.cmp (show DV r _ 8 from Hr.scale 6 (by decide)) Hx (by rw [Hn.2]; simp <;> grind)
    refine Go.dcmp C at_246 (v := 0) (by rw [Hc]; rfl) (pc' := 247) rfl ?_
    refine Go.if_ne_f C at_247 (by decide) (pc' := 250) rfl ?_
    refine Go.iconst C at_250 (v := 1) rfl (pc' := 251) rfl ?_
    refine Go.goto C at_251 (by decide) (pc' := 255) (by decide) ?_
    refine Go.retN C (by simp) at_255 (by decide) (by decide) ?_
    exact rfl
  · -- 2 coefficient(s)
    refine Go.iconst C at_0 (v := 1) rfl (pc' := 1) rfl ?_
    refine Go.iloadN C at_1 rfl (pc' := 2) rfl ?_
    refine Go.iconst C at_2 (v := 3) rfl (pc' := 3) rfl ?_
    refine Go.iand C at_3 (pc' := 4) rfl ?_
    rw [ek]
    show Go p l e room_1 s m #[.int x0, .int x1, .int x2, .int x3, .int x4, .int x5] below meth c Z "com/example/junctura/junctura/model/PolynomialCostIntegralPinLaw" n0 (Bn s) (EnN s room_1 n0 (fun v _ => v = some (.int 1))) _ _ _ 4 #[.val (.int x0), .val (.int x1), .val (.int x2), .val (.int x3), .val (.int x4), .val (.int x5), .unset, .unset, .unset, .unset, .unset, .unset, .unset, .unset, .unset, .unset, .unset, .unset, .unset, .unset, .unset, .unset, .unset, .unset, .unset, .unset, .unset, .unset] [(.int (1 : Int32)), (.int (1 : Int32))]
    refine Go.iadd C at_4 (pc' := 5) rfl ?_
    show Go p l e room_1 s m #[.int x0, .int x1, .int x2, .int x3, .int x4, .int x5] below meth c Z "com/example/junctura/junctura/model/PolynomialCostIntegralPinLaw" n0 (Bn s) (EnN s room_1 n0 (fun v _ => v = some (.int 1))) _ _ _ 5 #[.val (.int x0), .val (.int x1), .val (.int x2), .val (.int x3), .val (.int x4), .val (.int x5), .unset, .unset, .unset, .unset, .unset, .unset, .unset, .unset, .unset, .unset, .unset, .unset, .unset, .unset, .unset, .unset, .unset, .unset, .unset, .unset, .unset, .unset] [(.int (2 : Int32))]
    refine Go.istore C at_5 (L' := #[.val (.int x0), .val (.int x1), .val (.int x2), .val (.int x3), .val (.int x4), .val (.int x5), .val (.int (2 : Int32)), .unset, .unset, .unset, .unset, .unset, .unset, .unset, .unset, .unset, .unset, .unset, .unset, .unset, .unset, .unset, .unset, .unset, .unset, .unset, .unset, .unset]) rfl (pc' := 7) rfl ?_
    refine Go.iloadN C at_7 rfl (pc' := 8) rfl ?_
    refine Go.sipush C at_8 (v := 255) rfl (pc' := 11) rfl ?_
    refine Go.iand C at_11 (pc' := 12) rfl ?_
    refine Go.i2l C at_12 (pc' := 13) rfl ?_
    refine Go.lstore C at_13 (L' := #[.val (.int x0), .val (.int x1), .val (.int x2), .val (.int x3), .val (.int x4), .val (.int x5), .val (.int (2 : Int32)), .val (.long (x2 &&& (255 : Int32)).toInt64), .second, .unset, .unset, .unset, .unset, .unset, .unset, .unset, .unset, .unset, .unset, .unset, .unset, .unset, .unset, .unset, .unset, .unset, .unset, .unset]) rfl (pc' := 15) rfl ?_
    refine Go.iload C at_15 rfl (pc' := 17) rfl ?_
    refine Go.iconst C at_17 (v := 1) rfl (pc' := 18) rfl ?_
    refine Go.icmp_le_f C at_18 (by decide) (pc' := 21) rfl ?_
    refine Go.iloadN C at_21 rfl (pc' := 22) rfl ?_
    refine Go.sipush C at_22 (v := 255) rfl (pc' := 25) rfl ?_
    refine Go.iand C at_25 (pc' := 26) rfl ?_
    refine Go.i2l C at_26 (pc' := 27) rfl ?_
    refine Go.goto C at_27 (by decide) (pc' := 31) (by decide) ?_
    refine Go.lstore C at_31 (L' := #[.val (.int x0), .val (.int x1), .val (.int x2), .val (.int x3), .val (.int x4), .val (.int x5), .val (.int (2 : Int32)), .val (.long (x2 &&& (255 : Int32)).toInt64), .second, .val (.long (x3 &&& (255 : Int32)).toInt64), .second, .unset, .unset, .unset, .unset, .unset, .unset, .unset, .unset, .unset, .unset, .unset, .unset, .unset, .unset, .unset, .unset, .unset]) rfl (pc' := 33) rfl ?_
    refine Go.iload C at_33 rfl (pc' := 35) rfl ?_
    refine Go.iconst C at_35 (v := 2) rfl (pc' := 36) rfl ?_
    refine Go.icmp_le_t C at_36 (by decide) (by decide) (pc' := 49) (by decide) ?_
    refine Go.lconst C at_49 (v := 0) rfl (pc' := 50) rfl ?_
    refine Go.lstore C at_50 (L' := #[.val (.int x0), .val (.int x1), .val (.int x2), .val (.int x3), .val (.int x4), .val (.int x5), .val (.int (2 : Int32)), .val (.long (x2 &&& (255 : Int32)).toInt64), .second, .val (.long (x3 &&& (255 : Int32)).toInt64), .second, .val (.long (0 : Int64)), .second, .unset, .unset, .unset, .unset, .unset, .unset, .unset, .unset, .unset, .unset, .unset, .unset, .unset, .unset, .unset]) rfl (pc' := 52) rfl ?_
    refine Go.iload C at_52 rfl (pc' := 54) rfl ?_
    refine Go.iconst C at_54 (v := 3) rfl (pc' := 55) rfl ?_
    refine Go.icmp_le_t C at_55 (by decide) (by decide) (pc' := 68) (by decide) ?_
    refine Go.lconst C at_68 (v := 0) rfl (pc' := 69) rfl ?_
    refine Go.lstore C at_69 (L' := #[.val (.int x0), .val (.int x1), .val (.int x2), .val (.int x3), .val (.int x4), .val (.int x5), .val (.int (2 : Int32)), .val (.long (x2 &&& (255 : Int32)).toInt64), .second, .val (.long (x3 &&& (255 : Int32)).toInt64), .second, .val (.long (0 : Int64)), .second, .val (.long (0 : Int64)), .second, .unset, .unset, .unset, .unset, .unset, .unset, .unset, .unset, .unset, .unset, .unset, .unset, .unset]) rfl (pc' := 71) rfl ?_
    refine Go.iload C at_71 rfl (pc' := 73) rfl ?_
    refine Go.newPVE C bnE at_73 (hw _ (List.mem_of_getElem? (i := 0) rfl)) (by decide) (cap := 2) (by decide) (by decide) (by decide) (by decide) (pc' := 75) rfl (dv := .double 0) rfl (ad := "[D") (by decide) ?_
    intro h1 kD E1 V1 T1
    obtain ⟨ta, e_ta⟩ : ∃ a, a = h0.size := ⟨_, rfl⟩
    rw [← e_ta] at V1 T1 ⊢
    have nta : n0 ≤ ta := e_ta ▸ Z0
    show Go p l e room_1 s m #[.int x0, .int x1, .int x2, .int x3, .int x4, .int x5] below meth c Z "com/example/junctura/junctura/model/PolynomialCostIntegralPinLaw" n0 (Bn s) (EnN s room_1 n0 (fun v _ => v = some (.int 1))) _ _ _ 75 #[.val (.int x0), .val (.int x1), .val (.int x2), .val (.int x3), .val (.int x4), .val (.int x5), .val (.int (2 : Int32)), .val (.long (x2 &&& (255 : Int32)).toInt64), .second, .val (.long (x3 &&& (255 : Int32)).toInt64), .second, .val (.long (0 : Int64)), .second, .val (.long (0 : Int64)), .second, .unset, .unset, .unset, .unset, .unset, .unset, .unset, .unset, .unset, .unset, .unset, .unset, .unset] [(.ref ta)]
    refine Go.astore C at_75 rfl (L' := #[.val (.int x0), .val (.int x1), .val (.int x2), .val (.int x3), .val (.int x4), .val (.int x5), .val (.int (2 : Int32)), .val (.long (x2 &&& (255 : Int32)).toInt64), .second, .val (.long (x3 &&& (255 : Int32)).toInt64), .second, .val (.long (0 : Int64)), .second, .val (.long (0 : Int64)), .second, .val (.ref ta), .unset, .unset, .unset, .unset, .unset, .unset, .unset, .unset, .unset, .unset, .unset, .unset]) rfl (pc' := 77) rfl ?_
    refine Go.aload C at_77 rfl rfl (pc' := 79) rfl ?_
    refine Go.iconst C at_79 (v := 0) rfl (pc' := 80) rfl ?_
    refine Go.lload C at_80 rfl (pc' := 82) rfl ?_
    refine Go.l2d C at_82 (v := FP.l2d (x2 &&& (255 : Int32)).toInt64) rfl (pc' := 83) rfl ?_
    refine Go.dastoreV C at_83 V1 (by decide) (by decide) 0 (by decide) (Nat.le_of_ble_eq_true rfl) nta (fun _ _ _ q => q) (pc' := 84) rfl ?_
    intro h2 W2 V2
    have T2 := T1.wr W2
    refine Go.iload C at_84 rfl (pc' := 86) rfl ?_
    refine Go.iconst C at_86 (v := 1) rfl (pc' := 87) rfl ?_
    refine Go.icmp_le_f C at_87 (by decide) (pc' := 90) rfl ?_
    refine Go.aload C at_90 rfl rfl (pc' := 92) rfl ?_
    refine Go.iconst C at_92 (v := 1) rfl (pc' := 93) rfl ?_
    refine Go.ldc2Long C at_93 (hw _ (List.mem_of_getElem? (i := 32) rfl)) (pc' := 96) rfl ?_
    refine Go.lload C at_96 rfl (pc' := 98) rfl ?_
    refine Go.lmul C at_98 (pc' := 99) rfl ?_
    refine Go.l2d C at_99 (v := FP.l2d ((2 : Int64) * (x3 &&& (255 : Int32)).toInt64)) rfl (pc' := 100) rfl ?_
    refine Go.dastoreV C at_100 V2 (by decide) (by decide) 1 (by decide) (Nat.le_of_ble_eq_true rfl) nta (fun _ _ _ q => q) (pc' := 101) rfl ?_
    intro h3 W3 V3
    have T3 := T2.wr W3
    refine Go.iload C at_101 rfl (pc' := 103) rfl ?_
    refine Go.iconst C at_103 (v := 2) rfl (pc' := 104) rfl ?_
    refine Go.icmp_le_t C at_104 (by decide) (by decide) (pc' := 118) (by decide) ?_
    refine Go.iload C at_118 rfl (pc' := 120) rfl ?_
    refine Go.iconst C at_120 (v := 3) rfl (pc' := 121) rfl ?_
    refine Go.icmp_le_t C at_121 (by decide) (by decide) (pc' := 135) (by decide) ?_
    refine Go.iloadN C at_135 rfl (pc' := 136) rfl ?_
    refine Go.bipush C at_136 (v := 20) rfl (pc' := 138) rfl ?_
    refine Go.ishl C at_138 (pc' := 139) rfl ?_
    refine Go.bipush C at_139 (v := 20) rfl (pc' := 141) rfl ?_
    refine Go.ishr C at_141 (pc' := 142) rfl ?_
    refine Go.istore C at_142 (L' := #[.val (.int x0), .val (.int x1), .val (.int x2), .val (.int x3), .val (.int x4), .val (.int x5), .val (.int (2 : Int32)), .val (.long (x2 &&& (255 : Int32)).toInt64), .second, .val (.long (x3 &&& (255 : Int32)).toInt64), .second, .val (.long (0 : Int64)), .second, .val (.long (0 : Int64)), .second, .val (.ref ta), .val (.int ((x1 <<< ((20 : Int32) &&& 31)) >>> ((20 : Int32) &&& 31))), .unset, .unset, .unset, .unset, .unset, .unset, .unset, .unset, .unset, .unset, .unset]) rfl (pc' := 144) rfl ?_
    refine Go.iload C at_144 rfl (pc' := 146) rfl ?_
    generalize ((x1 <<< ((20 : Int32) &&& 31)) >>> ((20 : Int32) &&& 31)) = mi at bm ⊢
    show Go p l e room_1 s m #[.int x0, .int x1, .int x2, .int x3, .int x4, .int x5] below meth c Z "com/example/junctura/junctura/model/PolynomialCostIntegralPinLaw" n0 (Bn s) (EnN s room_1 n0 (fun v _ => v = some (.int 1))) _ _ _ 146 #[.val (.int x0), .val (.int x1), .val (.int x2), .val (.int x3), .val (.int x4), .val (.int x5), .val (.int (2 : Int32)), .val (.long (x2 &&& (255 : Int32)).toInt64), .second, .val (.long (x3 &&& (255 : Int32)).toInt64), .second, .val (.long (0 : Int64)), .second, .val (.long (0 : Int64)), .second, .val (.ref ta), .val (.int mi), .unset, .unset, .unset, .unset, .unset, .unset, .unset, .unset, .unset, .unset, .unset] [(.int mi)]
    refine Go.i2d C at_146 (v := FP.l2d mi.toInt64) (i2d_w _) (pc' := 147) rfl ?_
    refine Go.ldc2Double C at_147 (hw _ (List.mem_of_getElem? (i := 1) rfl)) (pc' := 150) rfl ?_
    have Hv : DV (FP.ddiv (FP.l2d mi.toInt64) 4616189618054758400) mi.toInt 2 := own_quarter mi bm
    obtain ⟨v, ev⟩ : ∃ y, FP.ddiv (FP.l2d mi.toInt64) 4616189618054758400 = y := ⟨_, rfl⟩
    rw [ev] at Hv
    refine Go.ddiv C at_150 (ev ▸ Hv.nn) ev (pc' := 151) rfl ?_
    refine Go.dstore C at_151 (L' := #[.val (.int x0), .val (.int x1), .val (.int x2), .val (.int x3), .val (.int x4), .val (.int x5), .val (.int (2 : Int32)), .val (.long (x2 &&& (255 : Int32)).toInt64), .second, .val (.long (x3 &&& (255 : Int32)).toInt64), .second, .val (.long (0 : Int64)), .second, .val (.long (0 : Int64)), .second, .val (.ref ta), .val (.int mi), .val (.double v), .second, .unset, .unset, .unset, .unset, .unset, .unset, .unset, .unset, .unset]) rfl (pc' := 153) rfl ?_
    refine Go.newO C bnE at_153 (hw _ (List.mem_of_getElem? (i := 2) rfl)) (hw _ (List.mem_of_getElem? (i := 3) rfl)) (hw _ (List.mem_of_getElem? (i := 4) rfl)) (by decide) (by decide) (pc' := 156) rfl ?_
    intro h9 E9 A9 D9 U9
    obtain ⟨oa, e_oa⟩ : ∃ a, a = h3.size := ⟨_, rfl⟩
    rw [← e_oa] at A9 D9 U9 ⊢
    show Go p l e room_1 s m #[.int x0, .int x1, .int x2, .int x3, .int x4, .int x5] below meth c Z "com/example/junctura/junctura/model/PolynomialCostIntegralPinLaw" n0 (Bn s) (EnN s room_1 n0 (fun v _ => v = some (.int 1))) _ _ _ 156 #[.val (.int x0), .val (.int x1), .val (.int x2), .val (.int x3), .val (.int x4), .val (.int x5), .val (.int (2 : Int32)), .val (.long (x2 &&& (255 : Int32)).toInt64), .second, .val (.long (x3 &&& (255 : Int32)).toInt64), .second, .val (.long (0 : Int64)), .second, .val (.long (0 : Int64)), .second, .val (.ref ta), .val (.int mi), .val (.double v), .second, .unset, .unset, .unset, .unset, .unset, .unset, .unset, .unset, .unset] [(.ref oa)]
    have noa : n0 ≤ oa := e_oa ▸ Nat.le_trans Z0 (Nat.le_trans E1.1 (own_sz2 W2 W3))
    have F9 := D9 (Or.inr (hw _ (List.mem_of_getElem? (i := 22) rfl))) (ty := (.array .double)) (by decide)
    have V9 := V3.ext E9
    have T9 := T3.ext E9
    have B0 := own_coef0 x2
    have B1 := own_coef1 x3
    refine Go.dup C at_156 rfl (pc' := 157) rfl ?_
    refine Go.aload C at_157 rfl rfl (pc' := 159) rfl ?_
    refine Go.callN C at_159 rfl (hw _ (List.mem_of_getElem? (i := 5) rfl)) (hw _ (List.mem_of_getElem? (i := 6) rfl)) (hw _ (List.mem_of_getElem? (i := 7) rfl)) (by decide) (argsL := [(.ref ta)]) (rest := [(.ref oa)]) rfl (lenOf pd___D_V rfl) rfl (W := 1) (Nat.le_of_ble_eq_true rfl) (Ct.pay (rm_pc2 l Z a0 hw oa ta kD _ (FP.l2d (x2 &&& (255 : Int32)).toInt64) (FP.l2d ((2 : Int64) * (x3 &&& (255 : Int32)).toInt64)) h9 n0 noa A9 F9 V9 T9 B0.2.2.1 B0.2.2.2 B1.2.2.1 B1.2.2.2) (hw _ (List.mem_of_getElem? (i := 7) rfl)) (hw _ (List.mem_of_getElem? (i := 4) rfl)) (by decide) (by decide)) (fun _ _ _ q => q.2) (by decide) (by decide) (fun _ _ _ _ _ q => q) (pc' := 162) rfl ?_
    rintro _ h10 L10 ⟨⟨rfl, K10, A10, t', F10, V10⟩, -⟩
    show Go p l e room_1 s m #[.int x0, .int x1, .int x2, .int x3, .int x4, .int x5] below meth c Z "com/example/junctura/junctura/model/PolynomialCostIntegralPinLaw" n0 (Bn s) (EnN s room_1 n0 (fun v _ => v = some (.int 1))) _ _ _ 162 #[.val (.int x0), .val (.int x1), .val (.int x2), .val (.int x3), .val (.int x4), .val (.int x5), .val (.int (2 : Int32)), .val (.long (x2 &&& (255 : Int32)).toInt64), .second, .val (.long (x3 &&& (255 : Int32)).toInt64), .second, .val (.long (0 : Int64)), .second, .val (.long (0 : Int64)), .second, .val (.ref ta), .val (.int mi), .val (.double v), .second, .unset, .unset, .unset, .unset, .unset, .unset, .unset, .unset, .unset] [(.ref oa)]
    refine Go.astore C at_162 rfl (L' := #[.val (.int x0), .val (.int x1), .val (.int x2), .val (.int x3), .val (.int x4), .val (.int x5), .val (.int (2 : Int32)), .val (.long (x2 &&& (255 : Int32)).toInt64), .second, .val (.long (x3 &&& (255 : Int32)).toInt64), .second, .val (.long (0 : Int64)), .second, .val (.long (0 : Int64)), .second, .val (.ref ta), .val (.int mi), .val (.double v), .second, .val (.ref oa), .unset, .unset, .unset, .unset, .unset, .unset, .unset, .unset]) rfl (pc' := 164) rfl ?_
    refine Go.aload C at_164 rfl rfl (pc' := 166) rfl ?_
    refine Go.dload C at_166 rfl (pc' := 168) rfl ?_
    refine Go.callV C at_168 (hw _ (List.mem_of_getElem? (i := 23) rfl)) (hw _ (List.mem_of_getElem? (i := 24) rfl)) (hw _ (List.mem_of_getElem? (i := 26) rfl)) (hw _ (List.mem_of_getElem? (i := 25) rfl)) (fun st hZ => notFace_of_selects (args := #[]) (mvT hZ (hw _ (List.mem_of_getElem? (i := 26) rfl)))) (by decide) A10 (argsL := [(.double v)]) (rest := []) rfl (lenOf pd__D_D rfl) rfl (W := 0) (Nat.le_of_ble_eq_true rfl) (Ct.pay (rm_int2 l Z a0 hw oa t' kD v mi.toInt (FP.l2d (x2 &&& (255 : Int32)).toInt64) (FP.l2d ((2 : Int64) * (x3 &&& (255 : Int32)).toInt64)) (x2 &&& 255).toInt (x3 &&& 255).toInt h10 n0 F10 V10 Hv bm B0.1 B0.2.1 B1.1 B1.2.1) (hw _ (List.mem_of_getElem? (i := 27) rfl)) (hw _ (List.mem_of_getElem? (i := 4) rfl)) (by decide) (by decide)) (fun _ _ _ q => q.2) (by decide) (by decide) (fun _ _ _ _ _ q => q) (pc' := 171) rfl ?_
    rintro _ _ L11 ⟨⟨⟨r, rfl, Hr⟩, rfl⟩, -⟩
    show Go p l e room_1 s m #[.int x0, .int x1, .int x2, .int x3, .int x4, .int x5] below meth c Z "com/example/junctura/junctura/model/PolynomialCostIntegralPinLaw" n0 (Bn s) (EnN s room_1 n0 (fun v _ => v = some (.int 1))) _ _ _ 171 #[.val (.int x0), .val (.int x1), .val (.int x2), .val (.int x3), .val (.int x4), .val (.int x5), .val (.int (2 : Int32)), .val (.long (x2 &&& (255 : Int32)).toInt64), .second, .val (.long (x3 &&& (255 : Int32)).toInt64), .second, .val (.long (0 : Int64)), .second, .val (.long (0 : Int64)), .second, .val (.ref ta), .val (.int mi), .val (.double v), .second, .val (.ref oa), .unset, .unset, .unset, .unset, .unset, .unset, .unset, .unset] [(.double r)]
    refine Go.dstore C at_171 (L' := #[.val (.int x0), .val (.int x1), .val (.int x2), .val (.int x3), .val (.int x4), .val (.int x5), .val (.int (2 : Int32)), .val (.long (x2 &&& (255 : Int32)).toInt64), .second, .val (.long (x3 &&& (255 : Int32)).toInt64), .second, .val (.long (0 : Int64)), .second, .val (.long (0 : Int64)), .second, .val (.ref ta), .val (.int mi), .val (.double v), .second, .val (.ref oa), .val (.double r), .second, .unset, .unset, .unset, .unset, .unset, .unset]) rfl (pc' := 173) rfl ?_
    refine Go.iload C at_173 rfl (pc' := 175) rfl ?_
    refine Go.i2l C at_175 (pc' := 176) rfl ?_
    refine Go.lstore C at_176 (L' := #[.val (.int x0), .val (.int x1), .val (.int x2), .val (.int x3), .val (.int x4), .val (.int x5), .val (.int (2 : Int32)), .val (.long (x2 &&& (255 : Int32)).toInt64), .second, .val (.long (x3 &&& (255 : Int32)).toInt64), .second, .val (.long (0 : Int64)), .second, .val (.long (0 : Int64)), .second, .val (.ref ta), .val (.int mi), .val (.double v), .second, .val (.ref oa), .val (.double r), .second, .val (.long mi.toInt64), .second, .unset, .unset, .unset, .unset]) rfl (pc' := 178) rfl ?_
    refine Go.lload C at_178 rfl (pc' := 180) rfl ?_
    refine Go.lload C at_180 rfl (pc' := 182) rfl ?_
    refine Go.lmul C at_182 (pc' := 183) rfl ?_
    refine Go.ldc2Long C at_183 (hw _ (List.mem_of_getElem? (i := 28) rfl)) (pc' := 186) rfl ?_
    refine Go.lmul C at_186 (pc' := 187) rfl ?_
    refine Go.lload C at_187 rfl (pc' := 189) rfl ?_
    refine Go.lload C at_189 rfl (pc' := 191) rfl ?_
    refine Go.lmul C at_191 (pc' := 192) rfl ?_
    refine Go.lload C at_192 rfl (pc' := 194) rfl ?_
    refine Go.lmul C at_194 (pc' := 195) rfl ?_
    refine Go.ldc2Long C at_195 (hw _ (List.mem_of_getElem? (i := 29) rfl)) (pc' := 198) rfl ?_
    refine Go.lmul C at_198 (pc' := 199) rfl ?_
    refine Go.ladd C at_199 (pc' := 200) rfl ?_
    refine Go.lload C at_200 rfl (pc' := 202) rfl ?_
    refine Go.lload C at_202 rfl (pc' := 204) rfl ?_
    refine Go.lmul C at_204 (pc' := 205) rfl ?_
    refine Go.lload C at_205 rfl (pc' := 207) rfl ?_
    refine Go.lmul C at_207 (pc' := 208) rfl ?_
    refine Go.lload C at_208 rfl (pc' := 210) rfl ?_
    refine Go.lmul C at_210 (pc' := 211) rfl ?_
    refine Go.ldc2Long C at_211 (hw _ (List.mem_of_getElem? (i := 30) rfl)) (pc' := 214) rfl ?_
    refine Go.lmul C at_214 (pc' := 215) rfl ?_
    refine Go.ladd C at_215 (pc' := 216) rfl ?_
    refine Go.lload C at_216 rfl (pc' := 218) rfl ?_
    refine Go.lload C at_218 rfl (pc' := 220) rfl ?_
    refine Go.lmul C at_220 (pc' := 221) rfl ?_
    refine Go.lload C at_221 rfl (pc' := 223) rfl ?_
    refine Go.lmul C at_223 (pc' := 224) rfl ?_
    refine Go.lload C at_224 rfl (pc' := 226) rfl ?_
    refine Go.lmul C at_226 (pc' := 227) rfl ?_
    refine Go.lload C at_227 rfl (pc' := 229) rfl ?_
    refine Go.lmul C at_229 (pc' := 230) rfl ?_
    refine Go.ladd C at_230 (pc' := 231) rfl ?_
    refine Go.lstore C at_231 (L' := #[.val (.int x0), .val (.int x1), .val (.int x2), .val (.int x3), .val (.int x4), .val (.int x5), .val (.int (2 : Int32)), .val (.long (x2 &&& (255 : Int32)).toInt64), .second, .val (.long (x3 &&& (255 : Int32)).toInt64), .second, .val (.long (0 : Int64)), .second, .val (.long (0 : Int64)), .second, .val (.ref ta), .val (.int mi), .val (.double v), .second, .val (.ref oa), .val (.double r), .second, .val (.long mi.toInt64), .second, .val (.long ((((((x2 &&& (255 : Int32)).toInt64 * mi.toInt64) * (64 : Int64)) + ((((x3 &&& (255 : Int32)).toInt64 * mi.toInt64) * mi.toInt64) * (16 : Int64))) + (((((0 : Int64) * mi.toInt64) * mi.toInt64) * mi.toInt64) * (4 : Int64))) + (((((0 : Int64) * mi.toInt64) * mi.toInt64) * mi.toInt64) * mi.toInt64))), .second, .unset, .unset]) rfl (pc' := 233) rfl ?_
    refine Go.lload C at_233 rfl (pc' := 235) rfl ?_
    have Hn := own_num mi bm (own_e x2) (own_e x3) own_e0 own_e0
    generalize ((((((x2 &&& (255 : Int32)).toInt64 * mi.toInt64) * (64 : Int64)) + ((((x3 &&& (255 : Int32)).toInt64 * mi.toInt64) * mi.toInt64) * (16 : Int64))) + (((((0 : Int64) * mi.toInt64) * mi.toInt64) * mi.toInt64) * (4 : Int64))) + (((((0 : Int64) * mi.toInt64) * mi.toInt64) * mi.toInt64) * mi.toInt64)) = nu at Hn ⊢
    show Go p l e room_1 s m #[.int x0, .int x1, .int x2, .int x3, .int x4, .int x5] below meth c Z "com/example/junctura/junctura/model/PolynomialCostIntegralPinLaw" n0 (Bn s) (EnN s room_1 n0 (fun v _ => v = some (.int 1))) _ _ _ 235 #[.val (.int x0), .val (.int x1), .val (.int x2), .val (.int x3), .val (.int x4), .val (.int x5), .val (.int (2 : Int32)), .val (.long (x2 &&& (255 : Int32)).toInt64), .second, .val (.long (x3 &&& (255 : Int32)).toInt64), .second, .val (.long (0 : Int64)), .second, .val (.long (0 : Int64)), .second, .val (.ref ta), .val (.int mi), .val (.double v), .second, .val (.ref oa), .val (.double r), .second, .val (.long mi.toInt64), .second, .val (.long nu), .second, .unset, .unset] [(.long nu)]
    refine Go.l2d C at_235 (v := FP.l2d nu) rfl (pc' := 236) rfl ?_
    refine Go.ldc2Double C at_236 (hw _ (List.mem_of_getElem? (i := 31) rfl)) (pc' := 239) rfl ?_
    have Hx := own_256 nu Hn.1
    refine Go.ddiv C at_239 Hx.nn rfl (pc' := 240) rfl ?_
    refine Go.dstore C at_240 (L' := #[.val (.int x0), .val (.int x1), .val (.int x2), .val (.int x3), .val (.int x4), .val (.int x5), .val (.int (2 : Int32)), .val (.long (x2 &&& (255 : Int32)).toInt64), .second, .val (.long (x3 &&& (255 : Int32)).toInt64), .second, .val (.long (0 : Int64)), .second, .val (.long (0 : Int64)), .second, .val (.ref ta), .val (.int mi), .val (.double v), .second, .val (.ref oa), .val (.double r), .second, .val (.long mi.toInt64), .second, .val (.long nu), .second, .val (.double (FP.ddiv (FP.l2d nu) 4643211215818981376)), .second]) rfl (pc' := 242) rfl ?_
    refine Go.dload C at_242 rfl (pc' := 244) rfl ?_
    refine Go.dload C at_244 rfl (pc' := 246) rfl ?_
    have Hc : FP.dcmp r (FP.ddiv (FP.l2d nu) 4643211215818981376) = some .eq := DV.cmp (show DV r _ 8 from Hr.scale 4 (by decide)) Hx (by rw [Hn.2]; simp <;> grind)
    refine Go.dcmp C at_246 (v := 0) (by rw [Hc]; rfl) (pc' := 247) rfl ?_
    refine Go.if_ne_f C at_247 (by decide) (pc' := 250) rfl ?_
    refine Go.iconst C at_250 (v := 1) rfl (pc' := 251) rfl ?_
    refine Go.goto C at_251 (by decide) (pc' := 255) (by decide) ?_
    refine Go.retN C (by simp) at_255 (by decide) (by decide) ?_
    exact rfl
  · -- 3 coefficient(s)
    refine Go.iconst C at_0 (v := 1) rfl (pc' := 1) rfl ?_
    refine Go.iloadN C at_1 rfl (pc' := 2) rfl ?_
    refine Go.iconst C at_2 (v := 3) rfl (pc' := 3) rfl ?_
    refine Go.iand C at_3 (pc' := 4) rfl ?_
    rw [ek]
    show Go p l e room_1 s m #[.int x0, .int x1, .int x2, .int x3, .int x4, .int x5] below meth c Z "com/example/junctura/junctura/model/PolynomialCostIntegralPinLaw" n0 (Bn s) (EnN s room_1 n0 (fun v _ => v = some (.int 1))) _ _ _ 4 #[.val (.int x0), .val (.int x1), .val (.int x2), .val (.int x3), .val (.int x4), .val (.int x5), .unset, .unset, .unset, .unset, .unset, .unset, .unset, .unset, .unset, .unset, .unset, .unset, .unset, .unset, .unset, .unset, .unset, .unset, .unset, .unset, .unset, .unset] [(.int (2 : Int32)), (.int (1 : Int32))]
    refine Go.iadd C at_4 (pc' := 5) rfl ?_
    show Go p l e room_1 s m #[.int x0, .int x1, .int x2, .int x3, .int x4, .int x5] below meth c Z "com/example/junctura/junctura/model/PolynomialCostIntegralPinLaw" n0 (Bn s) (EnN s room_1 n0 (fun v _ => v = some (.int 1))) _ _ _ 5 #[.val (.int x0), .val (.int x1), .val (.int x2), .val (.int x3), .val (.int x4), .val (.int x5), .unset, .unset, .unset, .unset, .unset, .unset, .unset, .unset, .unset, .unset, .unset, .unset, .unset, .unset, .unset, .unset, .unset, .unset, .unset, .unset, .unset, .unset] [(.int (3 : Int32))]
    refine Go.istore C at_5 (L' := #[.val (.int x0), .val (.int x1), .val (.int x2), .val (.int x3), .val (.int x4), .val (.int x5), .val (.int (3 : Int32)), .unset, .unset, .unset, .unset, .unset, .unset, .unset, .unset, .unset, .unset, .unset, .unset, .unset, .unset, .unset, .unset, .unset, .unset, .unset, .unset, .unset]) rfl (pc' := 7) rfl ?_
    refine Go.iloadN C at_7 rfl (pc' := 8) rfl ?_
    refine Go.sipush C at_8 (v := 255) rfl (pc' := 11) rfl ?_
    refine Go.iand C at_11 (pc' := 12) rfl ?_
    refine Go.i2l C at_12 (pc' := 13) rfl ?_
    refine Go.lstore C at_13 (L' := #[.val (.int x0), .val (.int x1), .val (.int x2), .val (.int x3), .val (.int x4), .val (.int x5), .val (.int (3 : Int32)), .val (.long (x2 &&& (255 : Int32)).toInt64), .second, .unset, .unset, .unset, .unset, .unset, .unset, .unset, .unset, .unset, .unset, .unset, .unset, .unset, .unset, .unset, .unset, .unset, .unset, .unset]) rfl (pc' := 15) rfl ?_
    refine Go.iload C at_15 rfl (pc' := 17) rfl ?_
    refine Go.iconst C at_17 (v := 1) rfl (pc' := 18) rfl ?_
    refine Go.icmp_le_f C at_18 (by decide) (pc' := 21) rfl ?_
    refine Go.iloadN C at_21 rfl (pc' := 22) rfl ?_
    refine Go.sipush C at_22 (v := 255) rfl (pc' := 25) rfl ?_
    refine Go.iand C at_25 (pc' := 26) rfl ?_
    refine Go.i2l C at_26 (pc' := 27) rfl ?_
    refine Go.goto C at_27 (by decide) (pc' := 31) (by decide) ?_
    refine Go.lstore C at_31 (L' := #[.val (.int x0), .val (.int x1), .val (.int x2), .val (.int x3), .val (.int x4), .val (.int x5), .val (.int (3 : Int32)), .val (.long (x2 &&& (255 : Int32)).toInt64), .second, .val (.long (x3 &&& (255 : Int32)).toInt64), .second, .unset, .unset, .unset, .unset, .unset, .unset, .unset, .unset, .unset, .unset, .unset, .unset, .unset, .unset, .unset, .unset, .unset]) rfl (pc' := 33) rfl ?_
    refine Go.iload C at_33 rfl (pc' := 35) rfl ?_
    refine Go.iconst C at_35 (v := 2) rfl (pc' := 36) rfl ?_
    refine Go.icmp_le_f C at_36 (by decide) (pc' := 39) rfl ?_
    refine Go.iload C at_39 rfl (pc' := 41) rfl ?_
    refine Go.sipush C at_41 (v := 255) rfl (pc' := 44) rfl ?_
    refine Go.iand C at_44 (pc' := 45) rfl ?_
    refine Go.i2l C at_45 (pc' := 46) rfl ?_
    refine Go.goto C at_46 (by decide) (pc' := 50) (by decide) ?_
    refine Go.lstore C at_50 (L' := #[.val (.int x0), .val (.int x1), .val (.int x2), .val (.int x3), .val (.int x4), .val (.int x5), .val (.int (3 : Int32)), .val (.long (x2 &&& (255 : Int32)).toInt64), .second, .val (.long (x3 &&& (255 : Int32)).toInt64), .second, .val (.long (x4 &&& (255 : Int32)).toInt64), .second, .unset, .unset, .unset, .unset, .unset, .unset, .unset, .unset, .unset, .unset, .unset, .unset, .unset, .unset, .unset]) rfl (pc' := 52) rfl ?_
    refine Go.iload C at_52 rfl (pc' := 54) rfl ?_
    refine Go.iconst C at_54 (v := 3) rfl (pc' := 55) rfl ?_
    refine Go.icmp_le_t C at_55 (by decide) (by decide) (pc' := 68) (by decide) ?_
    refine Go.lconst C at_68 (v := 0) rfl (pc' := 69) rfl ?_
    refine Go.lstore C at_69 (L' := #[.val (.int x0), .val (.int x1), .val (.int x2), .val (.int x3), .val (.int x4), .val (.int x5), .val (.int (3 : Int32)), .val (.long (x2 &&& (255 : Int32)).toInt64), .second, .val (.long (x3 &&& (255 : Int32)).toInt64), .second, .val (.long (x4 &&& (255 : Int32)).toInt64), .second, .val (.long (0 : Int64)), .second, .unset, .unset, .unset, .unset, .unset, .unset, .unset, .unset, .unset, .unset, .unset, .unset, .unset]) rfl (pc' := 71) rfl ?_
    refine Go.iload C at_71 rfl (pc' := 73) rfl ?_
    refine Go.newPVE C bnE at_73 (hw _ (List.mem_of_getElem? (i := 0) rfl)) (by decide) (cap := 3) (by decide) (by decide) (by decide) (by decide) (pc' := 75) rfl (dv := .double 0) rfl (ad := "[D") (by decide) ?_
    intro h1 kD E1 V1 T1
    obtain ⟨ta, e_ta⟩ : ∃ a, a = h0.size := ⟨_, rfl⟩
    rw [← e_ta] at V1 T1 ⊢
    have nta : n0 ≤ ta := e_ta ▸ Z0
    show Go p l e room_1 s m #[.int x0, .int x1, .int x2, .int x3, .int x4, .int x5] below meth c Z "com/example/junctura/junctura/model/PolynomialCostIntegralPinLaw" n0 (Bn s) (EnN s room_1 n0 (fun v _ => v = some (.int 1))) _ _ _ 75 #[.val (.int x0), .val (.int x1), .val (.int x2), .val (.int x3), .val (.int x4), .val (.int x5), .val (.int (3 : Int32)), .val (.long (x2 &&& (255 : Int32)).toInt64), .second, .val (.long (x3 &&& (255 : Int32)).toInt64), .second, .val (.long (x4 &&& (255 : Int32)).toInt64), .second, .val (.long (0 : Int64)), .second, .unset, .unset, .unset, .unset, .unset, .unset, .unset, .unset, .unset, .unset, .unset, .unset, .unset] [(.ref ta)]
    refine Go.astore C at_75 rfl (L' := #[.val (.int x0), .val (.int x1), .val (.int x2), .val (.int x3), .val (.int x4), .val (.int x5), .val (.int (3 : Int32)), .val (.long (x2 &&& (255 : Int32)).toInt64), .second, .val (.long (x3 &&& (255 : Int32)).toInt64), .second, .val (.long (x4 &&& (255 : Int32)).toInt64), .second, .val (.long (0 : Int64)), .second, .val (.ref ta), .unset, .unset, .unset, .unset, .unset, .unset, .unset, .unset, .unset, .unset, .unset, .unset]) rfl (pc' := 77) rfl ?_
    refine Go.aload C at_77 rfl rfl (pc' := 79) rfl ?_
    refine Go.iconst C at_79 (v := 0) rfl (pc' := 80) rfl ?_
    refine Go.lload C at_80 rfl (pc' := 82) rfl ?_
    refine Go.l2d C at_82 (v := FP.l2d (x2 &&& (255 : Int32)).toInt64) rfl (pc' := 83) rfl ?_
    refine Go.dastoreV C at_83 V1 (by decide) (by decide) 0 (by decide) (Nat.le_of_ble_eq_true rfl) nta (fun _ _ _ q => q) (pc' := 84) rfl ?_
    intro h2 W2 V2
    have T2 := T1.wr W2
    refine Go.iload C at_84 rfl (pc' := 86) rfl ?_
    refine Go.iconst C at_86 (v := 1) rfl (pc' := 87) rfl ?_
    refine Go.icmp_le_f C at_87 (by decide) (pc' := 90) rfl ?_
    refine Go.aload C at_90 rfl rfl (pc' := 92) rfl ?_
    refine Go.iconst C at_92 (v := 1) rfl (pc' := 93) rfl ?_
    refine Go.ldc2Long C at_93 (hw _ (List.mem_of_getElem? (i := 32) rfl)) (pc' := 96) rfl ?_
    refine Go.lload C at_96 rfl (pc' := 98) rfl ?_
    refine Go.lmul C at_98 (pc' := 99) rfl ?_
    refine Go.l2d C at_99 (v := FP.l2d ((2 : Int64) * (x3 &&& (255 : Int32)).toInt64)) rfl (pc' := 100) rfl ?_
    refine Go.dastoreV C at_100 V2 (by decide) (by decide) 1 (by decide) (Nat.le_of_ble_eq_true rfl) nta (fun _ _ _ q => q) (pc' := 101) rfl ?_
    intro h3 W3 V3
    have T3 := T2.wr W3
    refine Go.iload C at_101 rfl (pc' := 103) rfl ?_
    refine Go.iconst C at_103 (v := 2) rfl (pc' := 104) rfl ?_
    refine Go.icmp_le_f C at_104 (by decide) (pc' := 107) rfl ?_
    refine Go.aload C at_107 rfl rfl (pc' := 109) rfl ?_
    refine Go.iconst C at_109 (v := 2) rfl (pc' := 110) rfl ?_
    refine Go.ldc2Long C at_110 (hw _ (List.mem_of_getElem? (i := 33) rfl)) (pc' := 113) rfl ?_
    refine Go.lload C at_113 rfl (pc' := 115) rfl ?_
    refine Go.lmul C at_115 (pc' := 116) rfl ?_
    refine Go.l2d C at_116 (v := FP.l2d ((3 : Int64) * (x4 &&& (255 : Int32)).toInt64)) rfl (pc' := 117) rfl ?_
    refine Go.dastoreV C at_117 V3 (by decide) (by decide) 2 (by decide) (Nat.le_of_ble_eq_true rfl) nta (fun _ _ _ q => q) (pc' := 118) rfl ?_
    intro h4 W4 V4
    have T4 := T3.wr W4
    refine Go.iload C at_118 rfl (pc' := 120) rfl ?_
    refine Go.iconst C at_120 (v := 3) rfl (pc' := 121) rfl ?_
    refine Go.icmp_le_t C at_121 (by decide) (by decide) (pc' := 135) (by decide) ?_
    refine Go.iloadN C at_135 rfl (pc' := 136) rfl ?_
    refine Go.bipush C at_136 (v := 20) rfl (pc' := 138) rfl ?_
    refine Go.ishl C at_138 (pc' := 139) rfl ?_
    refine Go.bipush C at_139 (v := 20) rfl (pc' := 141) rfl ?_
    refine Go.ishr C at_141 (pc' := 142) rfl ?_
    refine Go.istore C at_142 (L' := #[.val (.int x0), .val (.int x1), .val (.int x2), .val (.int x3), .val (.int x4), .val (.int x5), .val (.int (3 : Int32)), .val (.long (x2 &&& (255 : Int32)).toInt64), .second, .val (.long (x3 &&& (255 : Int32)).toInt64), .second, .val (.long (x4 &&& (255 : Int32)).toInt64), .second, .val (.long (0 : Int64)), .second, .val (.ref ta), .val (.int ((x1 <<< ((20 : Int32) &&& 31)) >>> ((20 : Int32) &&& 31))), .unset, .unset, .unset, .unset, .unset, .unset, .unset, .unset, .unset, .unset, .unset]) rfl (pc' := 144) rfl ?_
    refine Go.iload C at_144 rfl (pc' := 146) rfl ?_
    generalize ((x1 <<< ((20 : Int32) &&& 31)) >>> ((20 : Int32) &&& 31)) = mi at bm ⊢
    show Go p l e room_1 s m #[.int x0, .int x1, .int x2, .int x3, .int x4, .int x5] below meth c Z "com/example/junctura/junctura/model/PolynomialCostIntegralPinLaw" n0 (Bn s) (EnN s room_1 n0 (fun v _ => v = some (.int 1))) _ _ _ 146 #[.val (.int x0), .val (.int x1), .val (.int x2), .val (.int x3), .val (.int x4), .val (.int x5), .val (.int (3 : Int32)), .val (.long (x2 &&& (255 : Int32)).toInt64), .second, .val (.long (x3 &&& (255 : Int32)).toInt64), .second, .val (.long (x4 &&& (255 : Int32)).toInt64), .second, .val (.long (0 : Int64)), .second, .val (.ref ta), .val (.int mi), .unset, .unset, .unset, .unset, .unset, .unset, .unset, .unset, .unset, .unset, .unset] [(.int mi)]
    refine Go.i2d C at_146 (v := FP.l2d mi.toInt64) (i2d_w _) (pc' := 147) rfl ?_
    refine Go.ldc2Double C at_147 (hw _ (List.mem_of_getElem? (i := 1) rfl)) (pc' := 150) rfl ?_
    have Hv : DV (FP.ddiv (FP.l2d mi.toInt64) 4616189618054758400) mi.toInt 2 := own_quarter mi bm
    obtain ⟨v, ev⟩ : ∃ y, FP.ddiv (FP.l2d mi.toInt64) 4616189618054758400 = y := ⟨_, rfl⟩
    rw [ev] at Hv
    refine Go.ddiv C at_150 (ev ▸ Hv.nn) ev (pc' := 151) rfl ?_
    refine Go.dstore C at_151 (L' := #[.val (.int x0), .val (.int x1), .val (.int x2), .val (.int x3), .val (.int x4), .val (.int x5), .val (.int (3 : Int32)), .val (.long (x2 &&& (255 : Int32)).toInt64), .second, .val (.long (x3 &&& (255 : Int32)).toInt64), .second, .val (.long (x4 &&& (255 : Int32)).toInt64), .second, .val (.long (0 : Int64)), .second, .val (.ref ta), .val (.int mi), .val (.double v), .second, .unset, .unset, .unset, .unset, .unset, .unset, .unset, .unset, .unset]) rfl (pc' := 153) rfl ?_
    refine Go.newO C bnE at_153 (hw _ (List.mem_of_getElem? (i := 2) rfl)) (hw _ (List.mem_of_getElem? (i := 3) rfl)) (hw _ (List.mem_of_getElem? (i := 4) rfl)) (by decide) (by decide) (pc' := 156) rfl ?_
    intro h9 E9 A9 D9 U9
    obtain ⟨oa, e_oa⟩ : ∃ a, a = h4.size := ⟨_, rfl⟩
    rw [← e_oa] at A9 D9 U9 ⊢
    show Go p l e room_1 s m #[.int x0, .int x1, .int x2, .int x3, .int x4, .int x5] below meth c Z "com/example/junctura/junctura/model/PolynomialCostIntegralPinLaw" n0 (Bn s) (EnN s room_1 n0 (fun v _ => v = some (.int 1))) _ _ _ 156 #[.val (.int x0), .val (.int x1), .val (.int x2), .val (.int x3), .val (.int x4), .val (.int x5), .val (.int (3 : Int32)), .val (.long (x2 &&& (255 : Int32)).toInt64), .second, .val (.long (x3 &&& (255 : Int32)).toInt64), .second, .val (.long (x4 &&& (255 : Int32)).toInt64), .second, .val (.long (0 : Int64)), .second, .val (.ref ta), .val (.int mi), .val (.double v), .second, .unset, .unset, .unset, .unset, .unset, .unset, .unset, .unset, .unset] [(.ref oa)]
    have noa : n0 ≤ oa := e_oa ▸ Nat.le_trans Z0 (Nat.le_trans E1.1 (own_sz3 W2 W3 W4))
    have F9 := D9 (Or.inr (hw _ (List.mem_of_getElem? (i := 22) rfl))) (ty := (.array .double)) (by decide)
    have V9 := V4.ext E9
    have T9 := T4.ext E9
    have B0 := own_coef0 x2
    have B1 := own_coef1 x3
    have B2 := own_coef2 x4
    refine Go.dup C at_156 rfl (pc' := 157) rfl ?_
    refine Go.aload C at_157 rfl rfl (pc' := 159) rfl ?_
    refine Go.callN C at_159 rfl (hw _ (List.mem_of_getElem? (i := 5) rfl)) (hw _ (List.mem_of_getElem? (i := 6) rfl)) (hw _ (List.mem_of_getElem? (i := 7) rfl)) (by decide) (argsL := [(.ref ta)]) (rest := [(.ref oa)]) rfl (lenOf pd___D_V rfl) rfl (W := 1) (Nat.le_of_ble_eq_true rfl) (Ct.pay (rm_pc3 l Z a0 hw oa ta kD _ (FP.l2d (x2 &&& (255 : Int32)).toInt64) (FP.l2d ((2 : Int64) * (x3 &&& (255 : Int32)).toInt64)) (FP.l2d ((3 : Int64) * (x4 &&& (255 : Int32)).toInt64)) h9 n0 noa A9 F9 V9 T9 B0.2.2.1 B0.2.2.2 B1.2.2.1 B1.2.2.2 B2.2.2.1 B2.2.2.2) (hw _ (List.mem_of_getElem? (i := 7) rfl)) (hw _ (List.mem_of_getElem? (i := 4) rfl)) (by decide) (by decide)) (fun _ _ _ q => q.2) (by decide) (by decide) (fun _ _ _ _ _ q => q) (pc' := 162) rfl ?_
    rintro _ h10 L10 ⟨⟨rfl, K10, A10, t', F10, V10⟩, -⟩
    show Go p l e room_1 s m #[.int x0, .int x1, .int x2, .int x3, .int x4, .int x5] below meth c Z "com/example/junctura/junctura/model/PolynomialCostIntegralPinLaw" n0 (Bn s) (EnN s room_1 n0 (fun v _ => v = some (.int 1))) _ _ _ 162 #[.val (.int x0), .val (.int x1), .val (.int x2), .val (.int x3), .val (.int x4), .val (.int x5), .val (.int (3 : Int32)), .val (.long (x2 &&& (255 : Int32)).toInt64), .second, .val (.long (x3 &&& (255 : Int32)).toInt64), .second, .val (.long (x4 &&& (255 : Int32)).toInt64), .second, .val (.long (0 : Int64)), .second, .val (.ref ta), .val (.int mi), .val (.double v), .second, .unset, .unset, .unset, .unset, .unset, .unset, .unset, .unset, .unset] [(.ref oa)]
    refine Go.astore C at_162 rfl (L' := #[.val (.int x0), .val (.int x1), .val (.int x2), .val (.int x3), .val (.int x4), .val (.int x5), .val (.int (3 : Int32)), .val (.long (x2 &&& (255 : Int32)).toInt64), .second, .val (.long (x3 &&& (255 : Int32)).toInt64), .second, .val (.long (x4 &&& (255 : Int32)).toInt64), .second, .val (.long (0 : Int64)), .second, .val (.ref ta), .val (.int mi), .val (.double v), .second, .val (.ref oa), .unset, .unset, .unset, .unset, .unset, .unset, .unset, .unset]) rfl (pc' := 164) rfl ?_
    refine Go.aload C at_164 rfl rfl (pc' := 166) rfl ?_
    refine Go.dload C at_166 rfl (pc' := 168) rfl ?_
    refine Go.callV C at_168 (hw _ (List.mem_of_getElem? (i := 23) rfl)) (hw _ (List.mem_of_getElem? (i := 24) rfl)) (hw _ (List.mem_of_getElem? (i := 26) rfl)) (hw _ (List.mem_of_getElem? (i := 25) rfl)) (fun st hZ => notFace_of_selects (args := #[]) (mvT hZ (hw _ (List.mem_of_getElem? (i := 26) rfl)))) (by decide) A10 (argsL := [(.double v)]) (rest := []) rfl (lenOf pd__D_D rfl) rfl (W := 0) (Nat.le_of_ble_eq_true rfl) (Ct.pay (rm_int3 l Z a0 hw oa t' kD v mi.toInt (FP.l2d (x2 &&& (255 : Int32)).toInt64) (FP.l2d ((2 : Int64) * (x3 &&& (255 : Int32)).toInt64)) (FP.l2d ((3 : Int64) * (x4 &&& (255 : Int32)).toInt64)) (x2 &&& 255).toInt (x3 &&& 255).toInt (x4 &&& 255).toInt h10 n0 F10 V10 Hv bm B0.1 B0.2.1 B1.1 B1.2.1 B2.1 B2.2.1) (hw _ (List.mem_of_getElem? (i := 27) rfl)) (hw _ (List.mem_of_getElem? (i := 4) rfl)) (by decide) (by decide)) (fun _ _ _ q => q.2) (by decide) (by decide) (fun _ _ _ _ _ q => q) (pc' := 171) rfl ?_
    rintro _ _ L11 ⟨⟨⟨r, rfl, Hr⟩, rfl⟩, -⟩
    show Go p l e room_1 s m #[.int x0, .int x1, .int x2, .int x3, .int x4, .int x5] below meth c Z "com/example/junctura/junctura/model/PolynomialCostIntegralPinLaw" n0 (Bn s) (EnN s room_1 n0 (fun v _ => v = some (.int 1))) _ _ _ 171 #[.val (.int x0), .val (.int x1), .val (.int x2), .val (.int x3), .val (.int x4), .val (.int x5), .val (.int (3 : Int32)), .val (.long (x2 &&& (255 : Int32)).toInt64), .second, .val (.long (x3 &&& (255 : Int32)).toInt64), .second, .val (.long (x4 &&& (255 : Int32)).toInt64), .second, .val (.long (0 : Int64)), .second, .val (.ref ta), .val (.int mi), .val (.double v), .second, .val (.ref oa), .unset, .unset, .unset, .unset, .unset, .unset, .unset, .unset] [(.double r)]
    refine Go.dstore C at_171 (L' := #[.val (.int x0), .val (.int x1), .val (.int x2), .val (.int x3), .val (.int x4), .val (.int x5), .val (.int (3 : Int32)), .val (.long (x2 &&& (255 : Int32)).toInt64), .second, .val (.long (x3 &&& (255 : Int32)).toInt64), .second, .val (.long (x4 &&& (255 : Int32)).toInt64), .second, .val (.long (0 : Int64)), .second, .val (.ref ta), .val (.int mi), .val (.double v), .second, .val (.ref oa), .val (.double r), .second, .unset, .unset, .unset, .unset, .unset, .unset]) rfl (pc' := 173) rfl ?_
    refine Go.iload C at_173 rfl (pc' := 175) rfl ?_
    refine Go.i2l C at_175 (pc' := 176) rfl ?_
    refine Go.lstore C at_176 (L' := #[.val (.int x0), .val (.int x1), .val (.int x2), .val (.int x3), .val (.int x4), .val (.int x5), .val (.int (3 : Int32)), .val (.long (x2 &&& (255 : Int32)).toInt64), .second, .val (.long (x3 &&& (255 : Int32)).toInt64), .second, .val (.long (x4 &&& (255 : Int32)).toInt64), .second, .val (.long (0 : Int64)), .second, .val (.ref ta), .val (.int mi), .val (.double v), .second, .val (.ref oa), .val (.double r), .second, .val (.long mi.toInt64), .second, .unset, .unset, .unset, .unset]) rfl (pc' := 178) rfl ?_
    refine Go.lload C at_178 rfl (pc' := 180) rfl ?_
    refine Go.lload C at_180 rfl (pc' := 182) rfl ?_
    refine Go.lmul C at_182 (pc' := 183) rfl ?_
    refine Go.ldc2Long C at_183 (hw _ (List.mem_of_getElem? (i := 28) rfl)) (pc' := 186) rfl ?_
    refine Go.lmul C at_186 (pc' := 187) rfl ?_
    refine Go.lload C at_187 rfl (pc' := 189) rfl ?_
    refine Go.lload C at_189 rfl (pc' := 191) rfl ?_
    refine Go.lmul C at_191 (pc' := 192) rfl ?_
    refine Go.lload C at_192 rfl (pc' := 194) rfl ?_
    refine Go.lmul C at_194 (pc' := 195) rfl ?_
    refine Go.ldc2Long C at_195 (hw _ (List.mem_of_getElem? (i := 29) rfl)) (pc' := 198) rfl ?_
    refine Go.lmul C at_198 (pc' := 199) rfl ?_
    refine Go.ladd C at_199 (pc' := 200) rfl ?_
    refine Go.lload C at_200 rfl (pc' := 202) rfl ?_
    refine Go.lload C at_202 rfl (pc' := 204) rfl ?_
    refine Go.lmul C at_204 (pc' := 205) rfl ?_
    refine Go.lload C at_205 rfl (pc' := 207) rfl ?_
    refine Go.lmul C at_207 (pc' := 208) rfl ?_
    refine Go.lload C at_208 rfl (pc' := 210) rfl ?_
    refine Go.lmul C at_210 (pc' := 211) rfl ?_
    refine Go.ldc2Long C at_211 (hw _ (List.mem_of_getElem? (i := 30) rfl)) (pc' := 214) rfl ?_
    refine Go.lmul C at_214 (pc' := 215) rfl ?_
    refine Go.ladd C at_215 (pc' := 216) rfl ?_
    refine Go.lload C at_216 rfl (pc' := 218) rfl ?_
    refine Go.lload C at_218 rfl (pc' := 220) rfl ?_
    refine Go.lmul C at_220 (pc' := 221) rfl ?_
    refine Go.lload C at_221 rfl (pc' := 223) rfl ?_
    refine Go.lmul C at_223 (pc' := 224) rfl ?_
    refine Go.lload C at_224 rfl (pc' := 226) rfl ?_
    refine Go.lmul C at_226 (pc' := 227) rfl ?_
    refine Go.lload C at_227 rfl (pc' := 229) rfl ?_
    refine Go.lmul C at_229 (pc' := 230) rfl ?_
    refine Go.ladd C at_230 (pc' := 231) rfl ?_
    refine Go.lstore C at_231 (L' := #[.val (.int x0), .val (.int x1), .val (.int x2), .val (.int x3), .val (.int x4), .val (.int x5), .val (.int (3 : Int32)), .val (.long (x2 &&& (255 : Int32)).toInt64), .second, .val (.long (x3 &&& (255 : Int32)).toInt64), .second, .val (.long (x4 &&& (255 : Int32)).toInt64), .second, .val (.long (0 : Int64)), .second, .val (.ref ta), .val (.int mi), .val (.double v), .second, .val (.ref oa), .val (.double r), .second, .val (.long mi.toInt64), .second, .val (.long ((((((x2 &&& (255 : Int32)).toInt64 * mi.toInt64) * (64 : Int64)) + ((((x3 &&& (255 : Int32)).toInt64 * mi.toInt64) * mi.toInt64) * (16 : Int64))) + (((((x4 &&& (255 : Int32)).toInt64 * mi.toInt64) * mi.toInt64) * mi.toInt64) * (4 : Int64))) + (((((0 : Int64) * mi.toInt64) * mi.toInt64) * mi.toInt64) * mi.toInt64))), .second, .unset, .unset]) rfl (pc' := 233) rfl ?_
    refine Go.lload C at_233 rfl (pc' := 235) rfl ?_
    have Hn := own_num mi bm (own_e x2) (own_e x3) (own_e x4) own_e0
    generalize ((((((x2 &&& (255 : Int32)).toInt64 * mi.toInt64) * (64 : Int64)) + ((((x3 &&& (255 : Int32)).toInt64 * mi.toInt64) * mi.toInt64) * (16 : Int64))) + (((((x4 &&& (255 : Int32)).toInt64 * mi.toInt64) * mi.toInt64) * mi.toInt64) * (4 : Int64))) + (((((0 : Int64) * mi.toInt64) * mi.toInt64) * mi.toInt64) * mi.toInt64)) = nu at Hn ⊢
    show Go p l e room_1 s m #[.int x0, .int x1, .int x2, .int x3, .int x4, .int x5] below meth c Z "com/example/junctura/junctura/model/PolynomialCostIntegralPinLaw" n0 (Bn s) (EnN s room_1 n0 (fun v _ => v = some (.int 1))) _ _ _ 235 #[.val (.int x0), .val (.int x1), .val (.int x2), .val (.int x3), .val (.int x4), .val (.int x5), .val (.int (3 : Int32)), .val (.long (x2 &&& (255 : Int32)).toInt64), .second, .val (.long (x3 &&& (255 : Int32)).toInt64), .second, .val (.long (x4 &&& (255 : Int32)).toInt64), .second, .val (.long (0 : Int64)), .second, .val (.ref ta), .val (.int mi), .val (.double v), .second, .val (.ref oa), .val (.double r), .second, .val (.long mi.toInt64), .second, .val (.long nu), .second, .unset, .unset] [(.long nu)]
    refine Go.l2d C at_235 (v := FP.l2d nu) rfl (pc' := 236) rfl ?_
    refine Go.ldc2Double C at_236 (hw _ (List.mem_of_getElem? (i := 31) rfl)) (pc' := 239) rfl ?_
    have Hx := own_256 nu Hn.1
    refine Go.ddiv C at_239 Hx.nn rfl (pc' := 240) rfl ?_
    refine Go.dstore C at_240 (L' := #[.val (.int x0), .val (.int x1), .val (.int x2), .val (.int x3), .val (.int x4), .val (.int x5), .val (.int (3 : Int32)), .val (.long (x2 &&& (255 : Int32)).toInt64), .second, .val (.long (x3 &&& (255 : Int32)).toInt64), .second, .val (.long (x4 &&& (255 : Int32)).toInt64), .second, .val (.long (0 : Int64)), .second, .val (.ref ta), .val (.int mi), .val (.double v), .second, .val (.ref oa), .val (.double r), .second, .val (.long mi.toInt64), .second, .val (.long nu), .second, .val (.double (FP.ddiv (FP.l2d nu) 4643211215818981376)), .second]) rfl (pc' := 242) rfl ?_
    refine Go.dload C at_242 rfl (pc' := 244) rfl ?_
    refine Go.dload C at_244 rfl (pc' := 246) rfl ?_
    have Hc : FP.dcmp r (FP.ddiv (FP.l2d nu) 4643211215818981376) = some .eq := DV.cmp (show DV r _ 8 from Hr.scale 2 (by decide)) Hx (by rw [Hn.2]; simp <;> grind)
    refine Go.dcmp C at_246 (v := 0) (by rw [Hc]; rfl) (pc' := 247) rfl ?_
    refine Go.if_ne_f C at_247 (by decide) (pc' := 250) rfl ?_
    refine Go.iconst C at_250 (v := 1) rfl (pc' := 251) rfl ?_
    refine Go.goto C at_251 (by decide) (pc' := 255) (by decide) ?_
    refine Go.retN C (by simp) at_255 (by decide) (by decide) ?_
    exact rfl
  · -- 4 coefficient(s)
    refine Go.iconst C at_0 (v := 1) rfl (pc' := 1) rfl ?_
    refine Go.iloadN C at_1 rfl (pc' := 2) rfl ?_
    refine Go.iconst C at_2 (v := 3) rfl (pc' := 3) rfl ?_
    refine Go.iand C at_3 (pc' := 4) rfl ?_
    rw [ek]
    show Go p l e room_1 s m #[.int x0, .int x1, .int x2, .int x3, .int x4, .int x5] below meth c Z "com/example/junctura/junctura/model/PolynomialCostIntegralPinLaw" n0 (Bn s) (EnN s room_1 n0 (fun v _ => v = some (.int 1))) _ _ _ 4 #[.val (.int x0), .val (.int x1), .val (.int x2), .val (.int x3), .val (.int x4), .val (.int x5), .unset, .unset, .unset, .unset, .unset, .unset, .unset, .unset, .unset, .unset, .unset, .unset, .unset, .unset, .unset, .unset, .unset, .unset, .unset, .unset, .unset, .unset] [(.int (3 : Int32)), (.int (1 : Int32))]
    refine Go.iadd C at_4 (pc' := 5) rfl ?_
    show Go p l e room_1 s m #[.int x0, .int x1, .int x2, .int x3, .int x4, .int x5] below meth c Z "com/example/junctura/junctura/model/PolynomialCostIntegralPinLaw" n0 (Bn s) (EnN s room_1 n0 (fun v _ => v = some (.int 1))) _ _ _ 5 #[.val (.int x0), .val (.int x1), .val (.int x2), .val (.int x3), .val (.int x4), .val (.int x5), .unset, .unset, .unset, .unset, .unset, .unset, .unset, .unset, .unset, .unset, .unset, .unset, .unset, .unset, .unset, .unset, .unset, .unset, .unset, .unset, .unset, .unset] [(.int (4 : Int32))]
    refine Go.istore C at_5 (L' := #[.val (.int x0), .val (.int x1), .val (.int x2), .val (.int x3), .val (.int x4), .val (.int x5), .val (.int (4 : Int32)), .unset, .unset, .unset, .unset, .unset, .unset, .unset, .unset, .unset, .unset, .unset, .unset, .unset, .unset, .unset, .unset, .unset, .unset, .unset, .unset, .unset]) rfl (pc' := 7) rfl ?_
    refine Go.iloadN C at_7 rfl (pc' := 8) rfl ?_
    refine Go.sipush C at_8 (v := 255) rfl (pc' := 11) rfl ?_
    refine Go.iand C at_11 (pc' := 12) rfl ?_
    refine Go.i2l C at_12 (pc' := 13) rfl ?_
    refine Go.lstore C at_13 (L' := #[.val (.int x0), .val (.int x1), .val (.int x2), .val (.int x3), .val (.int x4), .val (.int x5), .val (.int (4 : Int32)), .val (.long (x2 &&& (255 : Int32)).toInt64), .second, .unset, .unset, .unset, .unset, .unset, .unset, .unset, .unset, .unset, .unset, .unset, .unset, .unset, .unset, .unset, .unset, .unset, .unset, .unset]) rfl (pc' := 15) rfl ?_
    refine Go.iload C at_15 rfl (pc' := 17) rfl ?_
    refine Go.iconst C at_17 (v := 1) rfl (pc' := 18) rfl ?_
    refine Go.icmp_le_f C at_18 (by decide) (pc' := 21) rfl ?_
    refine Go.iloadN C at_21 rfl (pc' := 22) rfl ?_
    refine Go.sipush C at_22 (v := 255) rfl (pc' := 25) rfl ?_
    refine Go.iand C at_25 (pc' := 26) rfl ?_
    refine Go.i2l C at_26 (pc' := 27) rfl ?_
    refine Go.goto C at_27 (by decide) (pc' := 31) (by decide) ?_
    refine Go.lstore C at_31 (L' := #[.val (.int x0), .val (.int x1), .val (.int x2), .val (.int x3), .val (.int x4), .val (.int x5), .val (.int (4 : Int32)), .val (.long (x2 &&& (255 : Int32)).toInt64), .second, .val (.long (x3 &&& (255 : Int32)).toInt64), .second, .unset, .unset, .unset, .unset, .unset, .unset, .unset, .unset, .unset, .unset, .unset, .unset, .unset, .unset, .unset, .unset, .unset]) rfl (pc' := 33) rfl ?_
    refine Go.iload C at_33 rfl (pc' := 35) rfl ?_
    refine Go.iconst C at_35 (v := 2) rfl (pc' := 36) rfl ?_
    refine Go.icmp_le_f C at_36 (by decide) (pc' := 39) rfl ?_
    refine Go.iload C at_39 rfl (pc' := 41) rfl ?_
    refine Go.sipush C at_41 (v := 255) rfl (pc' := 44) rfl ?_
    refine Go.iand C at_44 (pc' := 45) rfl ?_
    refine Go.i2l C at_45 (pc' := 46) rfl ?_
    refine Go.goto C at_46 (by decide) (pc' := 50) (by decide) ?_
    refine Go.lstore C at_50 (L' := #[.val (.int x0), .val (.int x1), .val (.int x2), .val (.int x3), .val (.int x4), .val (.int x5), .val (.int (4 : Int32)), .val (.long (x2 &&& (255 : Int32)).toInt64), .second, .val (.long (x3 &&& (255 : Int32)).toInt64), .second, .val (.long (x4 &&& (255 : Int32)).toInt64), .second, .unset, .unset, .unset, .unset, .unset, .unset, .unset, .unset, .unset, .unset, .unset, .unset, .unset, .unset, .unset]) rfl (pc' := 52) rfl ?_
    refine Go.iload C at_52 rfl (pc' := 54) rfl ?_
    refine Go.iconst C at_54 (v := 3) rfl (pc' := 55) rfl ?_
    refine Go.icmp_le_f C at_55 (by decide) (pc' := 58) rfl ?_
    refine Go.iload C at_58 rfl (pc' := 60) rfl ?_
    refine Go.sipush C at_60 (v := 255) rfl (pc' := 63) rfl ?_
    refine Go.iand C at_63 (pc' := 64) rfl ?_
    refine Go.i2l C at_64 (pc' := 65) rfl ?_
    refine Go.goto C at_65 (by decide) (pc' := 69) (by decide) ?_
    refine Go.lstore C at_69 (L' := #[.val (.int x0), .val (.int x1), .val (.int x2), .val (.int x3), .val (.int x4), .val (.int x5), .val (.int (4 : Int32)), .val (.long (x2 &&& (255 : Int32)).toInt64), .second, .val (.long (x3 &&& (255 : Int32)).toInt64), .second, .val (.long (x4 &&& (255 : Int32)).toInt64), .second, .val (.long (x5 &&& (255 : Int32)).toInt64), .second, .unset, .unset, .unset, .unset, .unset, .unset, .unset, .unset, .unset, .unset, .unset, .unset, .unset]) rfl (pc' := 71) rfl ?_
    refine Go.iload C at_71 rfl (pc' := 73) rfl ?_
    refine Go.newPVE C bnE at_73 (hw _ (List.mem_of_getElem? (i := 0) rfl)) (by decide) (cap := 4) (by decide) (by decide) (by decide) (by decide) (pc' := 75) rfl (dv := .double 0) rfl (ad := "[D") (by decide) ?_
    intro h1 kD E1 V1 T1
    obtain ⟨ta, e_ta⟩ : ∃ a, a = h0.size := ⟨_, rfl⟩
    rw [← e_ta] at V1 T1 ⊢
    have nta : n0 ≤ ta := e_ta ▸ Z0
    show Go p l e room_1 s m #[.int x0, .int x1, .int x2, .int x3, .int x4, .int x5] below meth c Z "com/example/junctura/junctura/model/PolynomialCostIntegralPinLaw" n0 (Bn s) (EnN s room_1 n0 (fun v _ => v = some (.int 1))) _ _ _ 75 #[.val (.int x0), .val (.int x1), .val (.int x2), .val (.int x3), .val (.int x4), .val (.int x5), .val (.int (4 : Int32)), .val (.long (x2 &&& (255 : Int32)).toInt64), .second, .val (.long (x3 &&& (255 : Int32)).toInt64), .second, .val (.long (x4 &&& (255 : Int32)).toInt64), .second, .val (.long (x5 &&& (255 : Int32)).toInt64), .second, .unset, .unset, .unset, .unset, .unset, .unset, .unset, .unset, .unset, .unset, .unset, .unset, .unset] [(.ref ta)]
    refine Go.astore C at_75 rfl (L' := #[.val (.int x0), .val (.int x1), .val (.int x2), .val (.int x3), .val (.int x4), .val (.int x5), .val (.int (4 : Int32)), .val (.long (x2 &&& (255 : Int32)).toInt64), .second, .val (.long (x3 &&& (255 : Int32)).toInt64), .second, .val (.long (x4 &&& (255 : Int32)).toInt64), .second, .val (.long (x5 &&& (255 : Int32)).toInt64), .second, .val (.ref ta), .unset, .unset, .unset, .unset, .unset, .unset, .unset, .unset, .unset, .unset, .unset, .unset]) rfl (pc' := 77) rfl ?_
    refine Go.aload C at_77 rfl rfl (pc' := 79) rfl ?_
    refine Go.iconst C at_79 (v := 0) rfl (pc' := 80) rfl ?_
    refine Go.lload C at_80 rfl (pc' := 82) rfl ?_
    refine Go.l2d C at_82 (v := FP.l2d (x2 &&& (255 : Int32)).toInt64) rfl (pc' := 83) rfl ?_
    refine Go.dastoreV C at_83 V1 (by decide) (by decide) 0 (by decide) (Nat.le_of_ble_eq_true rfl) nta (fun _ _ _ q => q) (pc' := 84) rfl ?_
    intro h2 W2 V2
    have T2 := T1.wr W2
    refine Go.iload C at_84 rfl (pc' := 86) rfl ?_
    refine Go.iconst C at_86 (v := 1) rfl (pc' := 87) rfl ?_
    refine Go.icmp_le_f C at_87 (by decide) (pc' := 90) rfl ?_
    refine Go.aload C at_90 rfl rfl (pc' := 92) rfl ?_
    refine Go.iconst C at_92 (v := 1) rfl (pc' := 93) rfl ?_
    refine Go.ldc2Long C at_93 (hw _ (List.mem_of_getElem? (i := 32) rfl)) (pc' := 96) rfl ?_
    refine Go.lload C at_96 rfl (pc' := 98) rfl ?_
    refine Go.lmul C at_98 (pc' := 99) rfl ?_
    refine Go.l2d C at_99 (v := FP.l2d ((2 : Int64) * (x3 &&& (255 : Int32)).toInt64)) rfl (pc' := 100) rfl ?_
    refine Go.dastoreV C at_100 V2 (by decide) (by decide) 1 (by decide) (Nat.le_of_ble_eq_true rfl) nta (fun _ _ _ q => q) (pc' := 101) rfl ?_
    intro h3 W3 V3
    have T3 := T2.wr W3
    refine Go.iload C at_101 rfl (pc' := 103) rfl ?_
    refine Go.iconst C at_103 (v := 2) rfl (pc' := 104) rfl ?_
    refine Go.icmp_le_f C at_104 (by decide) (pc' := 107) rfl ?_
    refine Go.aload C at_107 rfl rfl (pc' := 109) rfl ?_
    refine Go.iconst C at_109 (v := 2) rfl (pc' := 110) rfl ?_
    refine Go.ldc2Long C at_110 (hw _ (List.mem_of_getElem? (i := 33) rfl)) (pc' := 113) rfl ?_
    refine Go.lload C at_113 rfl (pc' := 115) rfl ?_
    refine Go.lmul C at_115 (pc' := 116) rfl ?_
    refine Go.l2d C at_116 (v := FP.l2d ((3 : Int64) * (x4 &&& (255 : Int32)).toInt64)) rfl (pc' := 117) rfl ?_
    refine Go.dastoreV C at_117 V3 (by decide) (by decide) 2 (by decide) (Nat.le_of_ble_eq_true rfl) nta (fun _ _ _ q => q) (pc' := 118) rfl ?_
    intro h4 W4 V4
    have T4 := T3.wr W4
    refine Go.iload C at_118 rfl (pc' := 120) rfl ?_
    refine Go.iconst C at_120 (v := 3) rfl (pc' := 121) rfl ?_
    refine Go.icmp_le_f C at_121 (by decide) (pc' := 124) rfl ?_
    refine Go.aload C at_124 rfl rfl (pc' := 126) rfl ?_
    refine Go.iconst C at_126 (v := 3) rfl (pc' := 127) rfl ?_
    refine Go.ldc2Long C at_127 (hw _ (List.mem_of_getElem? (i := 30) rfl)) (pc' := 130) rfl ?_
    refine Go.lload C at_130 rfl (pc' := 132) rfl ?_
    refine Go.lmul C at_132 (pc' := 133) rfl ?_
    refine Go.l2d C at_133 (v := FP.l2d ((4 : Int64) * (x5 &&& (255 : Int32)).toInt64)) rfl (pc' := 134) rfl ?_
    refine Go.dastoreV C at_134 V4 (by decide) (by decide) 3 (by decide) (Nat.le_of_ble_eq_true rfl) nta (fun _ _ _ q => q) (pc' := 135) rfl ?_
    intro h5 W5 V5
    have T5 := T4.wr W5
    refine Go.iloadN C at_135 rfl (pc' := 136) rfl ?_
    refine Go.bipush C at_136 (v := 20) rfl (pc' := 138) rfl ?_
    refine Go.ishl C at_138 (pc' := 139) rfl ?_
    refine Go.bipush C at_139 (v := 20) rfl (pc' := 141) rfl ?_
    refine Go.ishr C at_141 (pc' := 142) rfl ?_
    refine Go.istore C at_142 (L' := #[.val (.int x0), .val (.int x1), .val (.int x2), .val (.int x3), .val (.int x4), .val (.int x5), .val (.int (4 : Int32)), .val (.long (x2 &&& (255 : Int32)).toInt64), .second, .val (.long (x3 &&& (255 : Int32)).toInt64), .second, .val (.long (x4 &&& (255 : Int32)).toInt64), .second, .val (.long (x5 &&& (255 : Int32)).toInt64), .second, .val (.ref ta), .val (.int ((x1 <<< ((20 : Int32) &&& 31)) >>> ((20 : Int32) &&& 31))), .unset, .unset, .unset, .unset, .unset, .unset, .unset, .unset, .unset, .unset, .unset]) rfl (pc' := 144) rfl ?_
    refine Go.iload C at_144 rfl (pc' := 146) rfl ?_
    generalize ((x1 <<< ((20 : Int32) &&& 31)) >>> ((20 : Int32) &&& 31)) = mi at bm ⊢
    show Go p l e room_1 s m #[.int x0, .int x1, .int x2, .int x3, .int x4, .int x5] below meth c Z "com/example/junctura/junctura/model/PolynomialCostIntegralPinLaw" n0 (Bn s) (EnN s room_1 n0 (fun v _ => v = some (.int 1))) _ _ _ 146 #[.val (.int x0), .val (.int x1), .val (.int x2), .val (.int x3), .val (.int x4), .val (.int x5), .val (.int (4 : Int32)), .val (.long (x2 &&& (255 : Int32)).toInt64), .second, .val (.long (x3 &&& (255 : Int32)).toInt64), .second, .val (.long (x4 &&& (255 : Int32)).toInt64), .second, .val (.long (x5 &&& (255 : Int32)).toInt64), .second, .val (.ref ta), .val (.int mi), .unset, .unset, .unset, .unset, .unset, .unset, .unset, .unset, .unset, .unset, .unset] [(.int mi)]
    refine Go.i2d C at_146 (v := FP.l2d mi.toInt64) (i2d_w _) (pc' := 147) rfl ?_
    refine Go.ldc2Double C at_147 (hw _ (List.mem_of_getElem? (i := 1) rfl)) (pc' := 150) rfl ?_
    have Hv : DV (FP.ddiv (FP.l2d mi.toInt64) 4616189618054758400) mi.toInt 2 := own_quarter mi bm
    obtain ⟨v, ev⟩ : ∃ y, FP.ddiv (FP.l2d mi.toInt64) 4616189618054758400 = y := ⟨_, rfl⟩
    rw [ev] at Hv
    refine Go.ddiv C at_150 (ev ▸ Hv.nn) ev (pc' := 151) rfl ?_
    refine Go.dstore C at_151 (L' := #[.val (.int x0), .val (.int x1), .val (.int x2), .val (.int x3), .val (.int x4), .val (.int x5), .val (.int (4 : Int32)), .val (.long (x2 &&& (255 : Int32)).toInt64), .second, .val (.long (x3 &&& (255 : Int32)).toInt64), .second, .val (.long (x4 &&& (255 : Int32)).toInt64), .second, .val (.long (x5 &&& (255 : Int32)).toInt64), .second, .val (.ref ta), .val (.int mi), .val (.double v), .second, .unset, .unset, .unset, .unset, .unset, .unset, .unset, .unset, .unset]) rfl (pc' := 153) rfl ?_
    refine Go.newO C bnE at_153 (hw _ (List.mem_of_getElem? (i := 2) rfl)) (hw _ (List.mem_of_getElem? (i := 3) rfl)) (hw _ (List.mem_of_getElem? (i := 4) rfl)) (by decide) (by decide) (pc' := 156) rfl ?_
    intro h9 E9 A9 D9 U9
    obtain ⟨oa, e_oa⟩ : ∃ a, a = h5.size := ⟨_, rfl⟩
    rw [← e_oa] at A9 D9 U9 ⊢
    show Go p l e room_1 s m #[.int x0, .int x1, .int x2, .int x3, .int x4, .int x5] below meth c Z "com/example/junctura/junctura/model/PolynomialCostIntegralPinLaw" n0 (Bn s) (EnN s room_1 n0 (fun v _ => v = some (.int 1))) _ _ _ 156 #[.val (.int x0), .val (.int x1), .val (.int x2), .val (.int x3), .val (.int x4), .val (.int x5), .val (.int (4 : Int32)), .val (.long (x2 &&& (255 : Int32)).toInt64), .second, .val (.long (x3 &&& (255 : Int32)).toInt64), .second, .val (.long (x4 &&& (255 : Int32)).toInt64), .second, .val (.long (x5 &&& (255 : Int32)).toInt64), .second, .val (.ref ta), .val (.int mi), .val (.double v), .second, .unset, .unset, .unset, .unset, .unset, .unset, .unset, .unset, .unset] [(.ref oa)]
    have noa : n0 ≤ oa := e_oa ▸ Nat.le_trans Z0 (Nat.le_trans E1.1 (own_sz4 W2 W3 W4 W5))
    have F9 := D9 (Or.inr (hw _ (List.mem_of_getElem? (i := 22) rfl))) (ty := (.array .double)) (by decide)
    have V9 := V5.ext E9
    have T9 := T5.ext E9
    have B0 := own_coef0 x2
    have B1 := own_coef1 x3
    have B2 := own_coef2 x4
    have B3 := own_coef3 x5
    refine Go.dup C at_156 rfl (pc' := 157) rfl ?_
    refine Go.aload C at_157 rfl rfl (pc' := 159) rfl ?_
    refine Go.callN C at_159 rfl (hw _ (List.mem_of_getElem? (i := 5) rfl)) (hw _ (List.mem_of_getElem? (i := 6) rfl)) (hw _ (List.mem_of_getElem? (i := 7) rfl)) (by decide) (argsL := [(.ref ta)]) (rest := [(.ref oa)]) rfl (lenOf pd___D_V rfl) rfl (W := 1) (Nat.le_of_ble_eq_true rfl) (Ct.pay (rm_pc4 l Z a0 hw oa ta kD _ (FP.l2d (x2 &&& (255 : Int32)).toInt64) (FP.l2d ((2 : Int64) * (x3 &&& (255 : Int32)).toInt64)) (FP.l2d ((3 : Int64) * (x4 &&& (255 : Int32)).toInt64)) (FP.l2d ((4 : Int64) * (x5 &&& (255 : Int32)).toInt64)) h9 n0 noa A9 F9 V9 T9 B0.2.2.1 B0.2.2.2 B1.2.2.1 B1.2.2.2 B2.2.2.1 B2.2.2.2 B3.2.2.1 B3.2.2.2) (hw _ (List.mem_of_getElem? (i := 7) rfl)) (hw _ (List.mem_of_getElem? (i := 4) rfl)) (by decide) (by decide)) (fun _ _ _ q => q.2) (by decide) (by decide) (fun _ _ _ _ _ q => q) (pc' := 162) rfl ?_
    rintro _ h10 L10 ⟨⟨rfl, K10, A10, t', F10, V10⟩, -⟩
    show Go p l e room_1 s m #[.int x0, .int x1, .int x2, .int x3, .int x4, .int x5] below meth c Z "com/example/junctura/junctura/model/PolynomialCostIntegralPinLaw" n0 (Bn s) (EnN s room_1 n0 (fun v _ => v = some (.int 1))) _ _ _ 162 #[.val (.int x0), .val (.int x1), .val (.int x2), .val (.int x3), .val (.int x4), .val (.int x5), .val (.int (4 : Int32)), .val (.long (x2 &&& (255 : Int32)).toInt64), .second, .val (.long (x3 &&& (255 : Int32)).toInt64), .second, .val (.long (x4 &&& (255 : Int32)).toInt64), .second, .val (.long (x5 &&& (255 : Int32)).toInt64), .second, .val (.ref ta), .val (.int mi), .val (.double v), .second, .unset, .unset, .unset, .unset, .unset, .unset, .unset, .unset, .unset] [(.ref oa)]
    refine Go.astore C at_162 rfl (L' := #[.val (.int x0), .val (.int x1), .val (.int x2), .val (.int x3), .val (.int x4), .val (.int x5), .val (.int (4 : Int32)), .val (.long (x2 &&& (255 : Int32)).toInt64), .second, .val (.long (x3 &&& (255 : Int32)).toInt64), .second, .val (.long (x4 &&& (255 : Int32)).toInt64), .second, .val (.long (x5 &&& (255 : Int32)).toInt64), .second, .val (.ref ta), .val (.int mi), .val (.double v), .second, .val (.ref oa), .unset, .unset, .unset, .unset, .unset, .unset, .unset, .unset]) rfl (pc' := 164) rfl ?_
    refine Go.aload C at_164 rfl rfl (pc' := 166) rfl ?_
    refine Go.dload C at_166 rfl (pc' := 168) rfl ?_
    refine Go.callV C at_168 (hw _ (List.mem_of_getElem? (i := 23) rfl)) (hw _ (List.mem_of_getElem? (i := 24) rfl)) (hw _ (List.mem_of_getElem? (i := 26) rfl)) (hw _ (List.mem_of_getElem? (i := 25) rfl)) (fun st hZ => notFace_of_selects (args := #[]) (mvT hZ (hw _ (List.mem_of_getElem? (i := 26) rfl)))) (by decide) A10 (argsL := [(.double v)]) (rest := []) rfl (lenOf pd__D_D rfl) rfl (W := 0) (Nat.le_of_ble_eq_true rfl) (Ct.pay (rm_int4 l Z a0 hw oa t' kD v mi.toInt (FP.l2d (x2 &&& (255 : Int32)).toInt64) (FP.l2d ((2 : Int64) * (x3 &&& (255 : Int32)).toInt64)) (FP.l2d ((3 : Int64) * (x4 &&& (255 : Int32)).toInt64)) (FP.l2d ((4 : Int64) * (x5 &&& (255 : Int32)).toInt64)) (x2 &&& 255).toInt (x3 &&& 255).toInt (x4 &&& 255).toInt (x5 &&& 255).toInt h10 n0 F10 V10 Hv bm B0.1 B0.2.1 B1.1 B1.2.1 B2.1 B2.2.1 B3.1 B3.2.1) (hw _ (List.mem_of_getElem? (i := 27) rfl)) (hw _ (List.mem_of_getElem? (i := 4) rfl)) (by decide) (by decide)) (fun _ _ _ q => q.2) (by decide) (by decide) (fun _ _ _ _ _ q => q) (pc' := 171) rfl ?_
    rintro _ _ L11 ⟨⟨⟨r, rfl, Hr⟩, rfl⟩, -⟩
    show Go p l e room_1 s m #[.int x0, .int x1, .int x2, .int x3, .int x4, .int x5] below meth c Z "com/example/junctura/junctura/model/PolynomialCostIntegralPinLaw" n0 (Bn s) (EnN s room_1 n0 (fun v _ => v = some (.int 1))) _ _ _ 171 #[.val (.int x0), .val (.int x1), .val (.int x2), .val (.int x3), .val (.int x4), .val (.int x5), .val (.int (4 : Int32)), .val (.long (x2 &&& (255 : Int32)).toInt64), .second, .val (.long (x3 &&& (255 : Int32)).toInt64), .second, .val (.long (x4 &&& (255 : Int32)).toInt64), .second, .val (.long (x5 &&& (255 : Int32)).toInt64), .second, .val (.ref ta), .val (.int mi), .val (.double v), .second, .val (.ref oa), .unset, .unset, .unset, .unset, .unset, .unset, .unset, .unset] [(.double r)]
    refine Go.dstore C at_171 (L' := #[.val (.int x0), .val (.int x1), .val (.int x2), .val (.int x3), .val (.int x4), .val (.int x5), .val (.int (4 : Int32)), .val (.long (x2 &&& (255 : Int32)).toInt64), .second, .val (.long (x3 &&& (255 : Int32)).toInt64), .second, .val (.long (x4 &&& (255 : Int32)).toInt64), .second, .val (.long (x5 &&& (255 : Int32)).toInt64), .second, .val (.ref ta), .val (.int mi), .val (.double v), .second, .val (.ref oa), .val (.double r), .second, .unset, .unset, .unset, .unset, .unset, .unset]) rfl (pc' := 173) rfl ?_
    refine Go.iload C at_173 rfl (pc' := 175) rfl ?_
    refine Go.i2l C at_175 (pc' := 176) rfl ?_
    refine Go.lstore C at_176 (L' := #[.val (.int x0), .val (.int x1), .val (.int x2), .val (.int x3), .val (.int x4), .val (.int x5), .val (.int (4 : Int32)), .val (.long (x2 &&& (255 : Int32)).toInt64), .second, .val (.long (x3 &&& (255 : Int32)).toInt64), .second, .val (.long (x4 &&& (255 : Int32)).toInt64), .second, .val (.long (x5 &&& (255 : Int32)).toInt64), .second, .val (.ref ta), .val (.int mi), .val (.double v), .second, .val (.ref oa), .val (.double r), .second, .val (.long mi.toInt64), .second, .unset, .unset, .unset, .unset]) rfl (pc' := 178) rfl ?_
    refine Go.lload C at_178 rfl (pc' := 180) rfl ?_
    refine Go.lload C at_180 rfl (pc' := 182) rfl ?_
    refine Go.lmul C at_182 (pc' := 183) rfl ?_
    refine Go.ldc2Long C at_183 (hw _ (List.mem_of_getElem? (i := 28) rfl)) (pc' := 186) rfl ?_
    refine Go.lmul C at_186 (pc' := 187) rfl ?_
    refine Go.lload C at_187 rfl (pc' := 189) rfl ?_
    refine Go.lload C at_189 rfl (pc' := 191) rfl ?_
    refine Go.lmul C at_191 (pc' := 192) rfl ?_
    refine Go.lload C at_192 rfl (pc' := 194) rfl ?_
    refine Go.lmul C at_194 (pc' := 195) rfl ?_
    refine Go.ldc2Long C at_195 (hw _ (List.mem_of_getElem? (i := 29) rfl)) (pc' := 198) rfl ?_
    refine Go.lmul C at_198 (pc' := 199) rfl ?_
    refine Go.ladd C at_199 (pc' := 200) rfl ?_
    refine Go.lload C at_200 rfl (pc' := 202) rfl ?_
    refine Go.lload C at_202 rfl (pc' := 204) rfl ?_
    refine Go.lmul C at_204 (pc' := 205) rfl ?_
    refine Go.lload C at_205 rfl (pc' := 207) rfl ?_
    refine Go.lmul C at_207 (pc' := 208) rfl ?_
    refine Go.lload C at_208 rfl (pc' := 210) rfl ?_
    refine Go.lmul C at_210 (pc' := 211) rfl ?_
    refine Go.ldc2Long C at_211 (hw _ (List.mem_of_getElem? (i := 30) rfl)) (pc' := 214) rfl ?_
    refine Go.lmul C at_214 (pc' := 215) rfl ?_
    refine Go.ladd C at_215 (pc' := 216) rfl ?_
    refine Go.lload C at_216 rfl (pc' := 218) rfl ?_
    refine Go.lload C at_218 rfl (pc' := 220) rfl ?_
    refine Go.lmul C at_220 (pc' := 221) rfl ?_
    refine Go.lload C at_221 rfl (pc' := 223) rfl ?_
    refine Go.lmul C at_223 (pc' := 224) rfl ?_
    refine Go.lload C at_224 rfl (pc' := 226) rfl ?_
    refine Go.lmul C at_226 (pc' := 227) rfl ?_
    refine Go.lload C at_227 rfl (pc' := 229) rfl ?_
    refine Go.lmul C at_229 (pc' := 230) rfl ?_
    refine Go.ladd C at_230 (pc' := 231) rfl ?_
    refine Go.lstore C at_231 (L' := #[.val (.int x0), .val (.int x1), .val (.int x2), .val (.int x3), .val (.int x4), .val (.int x5), .val (.int (4 : Int32)), .val (.long (x2 &&& (255 : Int32)).toInt64), .second, .val (.long (x3 &&& (255 : Int32)).toInt64), .second, .val (.long (x4 &&& (255 : Int32)).toInt64), .second, .val (.long (x5 &&& (255 : Int32)).toInt64), .second, .val (.ref ta), .val (.int mi), .val (.double v), .second, .val (.ref oa), .val (.double r), .second, .val (.long mi.toInt64), .second, .val (.long ((((((x2 &&& (255 : Int32)).toInt64 * mi.toInt64) * (64 : Int64)) + ((((x3 &&& (255 : Int32)).toInt64 * mi.toInt64) * mi.toInt64) * (16 : Int64))) + (((((x4 &&& (255 : Int32)).toInt64 * mi.toInt64) * mi.toInt64) * mi.toInt64) * (4 : Int64))) + (((((x5 &&& (255 : Int32)).toInt64 * mi.toInt64) * mi.toInt64) * mi.toInt64) * mi.toInt64))), .second, .unset, .unset]) rfl (pc' := 233) rfl ?_
    refine Go.lload C at_233 rfl (pc' := 235) rfl ?_
    have Hn := own_num mi bm (own_e x2) (own_e x3) (own_e x4) (own_e x5) 
    generalize ((((((x2 &&& (255 : Int32)).toInt64 * mi.toInt64) * (64 : Int64)) + ((((x3 &&& (255 : Int32)).toInt64 * mi.toInt64) * mi.toInt64) * (16 : Int64))) + (((((x4 &&& (255 : Int32)).toInt64 * mi.toInt64) * mi.toInt64) * mi.toInt64) * (4 : Int64))) + (((((x5 &&& (255 : Int32)).toInt64 * mi.toInt64) * mi.toInt64) * mi.toInt64) * mi.toInt64)) = nu at Hn ⊢
    show Go p l e room_1 s m #[.int x0, .int x1, .int x2, .int x3, .int x4, .int x5] below meth c Z "com/example/junctura/junctura/model/PolynomialCostIntegralPinLaw" n0 (Bn s) (EnN s room_1 n0 (fun v _ => v = some (.int 1))) _ _ _ 235 #[.val (.int x0), .val (.int x1), .val (.int x2), .val (.int x3), .val (.int x4), .val (.int x5), .val (.int (4 : Int32)), .val (.long (x2 &&& (255 : Int32)).toInt64), .second, .val (.long (x3 &&& (255 : Int32)).toInt64), .second, .val (.long (x4 &&& (255 : Int32)).toInt64), .second, .val (.long (x5 &&& (255 : Int32)).toInt64), .second, .val (.ref ta), .val (.int mi), .val (.double v), .second, .val (.ref oa), .val (.double r), .second, .val (.long mi.toInt64), .second, .val (.long nu), .second, .unset, .unset] [(.long nu)]
    refine Go.l2d C at_235 (v := FP.l2d nu) rfl (pc' := 236) rfl ?_
    refine Go.ldc2Double C at_236 (hw _ (List.mem_of_getElem? (i := 31) rfl)) (pc' := 239) rfl ?_
    have Hx := own_256 nu Hn.1
    refine Go.ddiv C at_239 Hx.nn rfl (pc' := 240) rfl ?_
    refine Go.dstore C at_240 (L' := #[.val (.int x0), .val (.int x1), .val (.int x2), .val (.int x3), .val (.int x4), .val (.int x5), .val (.int (4 : Int32)), .val (.long (x2 &&& (255 : Int32)).toInt64), .second, .val (.long (x3 &&& (255 : Int32)).toInt64), .second, .val (.long (x4 &&& (255 : Int32)).toInt64), .second, .val (.long (x5 &&& (255 : Int32)).toInt64), .second, .val (.ref ta), .val (.int mi), .val (.double v), .second, .val (.ref oa), .val (.double r), .second, .val (.long mi.toInt64), .second, .val (.long nu), .second, .val (.double (FP.ddiv (FP.l2d nu) 4643211215818981376)), .second]) rfl (pc' := 242) rfl ?_
    refine Go.dload C at_242 rfl (pc' := 244) rfl ?_
    refine Go.dload C at_244 rfl (pc' := 246) rfl ?_
    have Hc : FP.dcmp r (FP.ddiv (FP.l2d nu) 4643211215818981376) = some .eq := DV.cmp (show DV r _ 8 from Hr.scale 0 (by decide)) Hx (by rw [Hn.2]; simp <;> grind)
    refine Go.dcmp C at_246 (v := 0) (by rw [Hc]; rfl) (pc' := 247) rfl ?_
    refine Go.if_ne_f C at_247 (by decide) (pc' := 250) rfl ?_
    refine Go.iconst C at_250 (v := 1) rfl (pc' := 251) rfl ?_
    refine Go.goto C at_251 (by decide) (pc' := 255) (by decide) ?_
    refine Go.retN C (by simp) at_255 (by decide) (by decide) ?_
    exact rfl
set_option maxRecDepth 65536 in
set_option maxHeartbeats 40000000 in
theorem comes_1 {Post : Tables → Env → Array Value → State → Outcome → State → Prop} (hpost : ∀ tb e args s v u, (limb_1_1.after args s (.returned v) u = true ∧ limb_1_2.after args s (.returned v) u = true ∧ True) → FrameEnd s (.returned v) u (Jvm.fieldLocs frame_1_writes args s ++ Jvm.arrayLocs frame_1_arrays args s ++ Jvm.staticLocs frame_1_statics s) 16 128 → Post tb e args s (.returned v) u) :
    ArmFor flags0 classFile x code maxLocals ret World_1 tables_1 room_1 Calls_1 rest_1 Pre_1 Post := by
  intro l hfl _ _ p e ha hc hk s m args below hf hA hF happ hP
  obtain ⟨hcalls, hrest, hpre⟩ := hP
  obtain ⟨-, -, -, hnamed, -, -, -, hat⟩ := (Spec.applies_iff hf).mp happ
  obtain ⟨hg, hn⟩ := and_e (Cond.before_iff.mp (show (Jvm.Cond.and given_1 narrow_1).before args s = true from hpre))
  obtain ⟨hcount, g0⟩ := and_e hg
  obtain ⟨k0, g1⟩ := and_e g0
  obtain ⟨k1, g2⟩ := and_e g1
  obtain ⟨k2, g3⟩ := and_e g2
  obtain ⟨k3, g4⟩ := and_e g3
  obtain ⟨k4, g5⟩ := and_e g4
  obtain ⟨w0, w1, w2, w3, w4, w5, rfl⟩ : ∃ w0 w1 w2 w3 w4 w5 : Value, args = #[w0, w1, w2, w3, w4, w5] := by
    have hs : args.size = 6 := by simpa [Cond.value, given_1] using hcount
    obtain ⟨L⟩ := args
    match L, hs with
    | [w0, w1, w2, w3, w4, w5], _ => exact ⟨w0, w1, w2, w3, w4, w5, rfl⟩
  have hw := fun d (hd : d ∈ tables_1) => atoms_spec (ws := Jvm.Cond.code x code maxLocals ret :: tables_1) hat d (List.mem_cons_of_mem _ hd)
  obtain ⟨i0, e0⟩ := is_v k0
  obtain rfl : w0 = (.int i0) := Option.some.inj e0
  obtain ⟨i1, e1⟩ := is_v k1
  obtain rfl : w1 = (.int i1) := Option.some.inj e1
  obtain ⟨i2, e2⟩ := is_v k2
  obtain rfl : w2 = (.int i2) := Option.some.inj e2
  obtain ⟨i3, e3⟩ := is_v k3
  obtain rfl : w3 = (.int i3) := Option.some.inj e3
  obtain ⟨i4, e4⟩ := is_v k4
  obtain rfl : w4 = (.int i4) := Option.some.inj e4
  obtain ⟨i5, e5⟩ := is_v g5
  obtain rfl : w5 = (.int i5) := Option.some.inj e5
  obtain ⟨n, o, h1, h2, h3, v, L, rfl, ⟨rfl, N⟩, hq⟩ := rm_law l s _ hw i0 i1 i2 i3 i4 i5 s.heap s.heap.size (Nat.le_refl _) p e ha hc hk s m _ below hf ((Spec.applies_iff_loose hf).mp happ).1 ⟨rfl, State.Warmed39.refl s, rfl⟩ trivial
  refine ⟨n, _, h1, h2, h3, hpost _ _ _ _ _ _ ⟨Cond.after_iff.mpr rfl, Cond.after_iff.mpr (eq_i res_at (Term.int_eval (1)) rfl), trivial⟩ ⟨hq.1, hq.2.1, (hq.2.2.sift fun y hy => Or.inr (N y hy)).mono (by decide) (by decide)⟩⟩
theorem main_1_1 : Claimed_1_1 := comes_1 fun _ _ _ _ _ _ h hF => ⟨h.1, hF⟩
theorem main_1_2 : Claimed_1_2 := comes_1 fun _ _ _ _ _ _ h hF => ⟨h.2.1, hF⟩
end Jvm.Pilot.@@N@@
namespace Jvm.Pilot.@@N@@
open Jvm Jvm.ClassFile Sem Op Lib Jvm.Free Jvm.Stand Jvm.Pilot.@@N@@.Jvm.D
/-! MADE BY PROGRAM (witnessworld.py) out of the Statement's table words and the real class files: 12 classes; the members and pool entries that the words name. The judged class is class 1, her method 1. -/
namespace start1
open Jvm.ClassFile
def u (s : String) : CpInfo := .utf8 (stringToUtf16 s)
/-- a pool by its gaps: so many unusable entries, then the entry; so many at the end -/
def gap : Nat → List CpInfo → List CpInfo
  | 0, r => r
  | n + 1, r => .unusable :: gap n r
def poolList (es : List (Nat × CpInfo)) (last : Nat) : List CpInfo := es.foldr (fun e r => gap e.1 (e.2 :: r)) (gap last [])
def pool (es : List (Nat × CpInfo)) (last : Nat) : Array CpInfo := ⟨poolList es last⟩
def fileOf (pool : Array CpInfo) (this : Nat) (attrs : Array Attribute := #[]) (ms : Array MethodInfo := #[]) (fl : Nat := 33) (sup : Nat := 0) (ifs : Array Nat := #[]) (fds : Array FieldInfo := #[]) : ClassFile where
  minorVersion := 0
  majorVersion := 65
  constantPool := pool
  accessFlags := fl
  thisClass := this
  superClass := sup
  interfaces := ifs
  fields := fds
  methods := ms
  attributes := attrs
def plain (name : String) (sup : Option ClassId) : Class where
  name := name
  kind := .ordinary
  loader := none
  accessFlags := 33
  super := sup
  interfaces := #[]
  cf := none
  fields := #[]
  methods := #[]
  instanceTypes := #[]
  staticTypes := #[]
  resolved := #[]
  callSites := []
  init := .initialized
  statics := none
  mirror := none

def pool0 : Array CpInfo := pool [(5, u "<init>"), (0, u "()V"), (1, .class_ 10), (1, u "java/lang/Object"), (85, u "clone"), (0, u "()Ljava/lang/Object;")] 26

def k0c0 : Code := { maxStack := 0, maxLocals := 1, code := object_method_1_code, exceptionTable := #[], attributes := #[] }
def k0m0 : Method := { name := "<init>", desc := "()V", sig := { parameters := [], returnType := none }, accessFlags := 1, code := some k0c0 }
def k0m1 : Method := { name := "clone", desc := "()Ljava/lang/Object;", sig := { parameters := [], returnType := some (.object "java/lang/Object") }, accessFlags := 260, code := none }
/-- java/lang/Object -/
def k0 : Class := { plain "java/lang/Object" none with
  accessFlags := 33
  interfaces := #[]
  cf := some (fileOf pool0 8 #[] #[{ accessFlags := 1, nameIndex := 5, descriptorIndex := 6, attributes := #[] }, { accessFlags := 260, nameIndex := 96, descriptorIndex := 97, attributes := #[] }] 33 0 #[] #[])
  fields := #[]
  methods := #[k0m0, k0m1]
  instanceTypes := #[]
  staticTypes := #[]
  resolved := Array.replicate 124 none
  statics := none }

def pool1 : Array CpInfo := pool [(2, .class_ 4), (1, u "java/lang/Object"), (0, u "<init>"), (0, u "()V"), (0, .long 2), (1, .long 3), (1, .long 4), (1, .double 4616189618054758400), (1, .class_ 16), (0, u "com/example/junctura/junctura/model/PolynomialCost"), (0, .methodref 15 18), (0, .nameAndType 5 19), (0, u "([D)V"), (0, .methodref 15 21), (0, .nameAndType 22 23), (0, u "integral"), (0, u "(D)D"), (0, .long 64), (1, .long 16), (1, .double 4643211215818981376), (1, .class_ 31), (0, u "com/example/junctura/junctura/model/PolynomialCostIntegralPinLaw"), (2, u "law"), (0, u "(IIIIII)Z")] 5

def k1m0 : Method := { name := "<init>", desc := "()V", sig := { parameters := [], returnType := none }, accessFlags := 1, code := none }
def k1c1 : Code := { maxStack := 6, maxLocals := 28, code := code, exceptionTable := #[], attributes := #[] }
def k1m1 : Method := { name := "law", desc := "(IIIIII)Z", sig := { parameters := [.int, .int, .int, .int, .int, .int], returnType := some .boolean }, accessFlags := 9, code := some k1c1 }
/-- com/example/junctura/junctura/model/PolynomialCostIntegralPinLaw -/
def k1 : Class := { plain "com/example/junctura/junctura/model/PolynomialCostIntegralPinLaw" (some 0) with
  accessFlags := 49
  interfaces := #[]
  cf := some (fileOf pool1 30 #[] #[{ accessFlags := 1, nameIndex := 5, descriptorIndex := 6, attributes := #[] }, { accessFlags := 9, nameIndex := 34, descriptorIndex := 35, attributes := #[] }] 49 2 #[] #[])
  fields := #[]
  methods := #[k1m0, k1m1]
  instanceTypes := #[]
  staticTypes := #[]
  resolved := Array.replicate 41 none
  statics := none }

def pool2 : Array CpInfo := pool [(1, .class_ 2), (0, u "com/example/junctura/junctura/model/LinkCost"), (0, .class_ 4), (0, u "java/lang/Object")] 7

/-- com/example/junctura/junctura/model/LinkCost -/
def k2 : Class := { plain "com/example/junctura/junctura/model/LinkCost" (some 0) with
  accessFlags := 1537
  interfaces := #[]
  cf := some (fileOf pool2 1 #[] #[] 1537 3 #[] #[])
  fields := #[]
  methods := #[]
  instanceTypes := #[]
  staticTypes := #[]
  resolved := Array.replicate 12 none
  statics := none }

def pool3 : Array CpInfo := pool [(1, .methodref 2 3), (0, .class_ 4), (0, .nameAndType 5 6), (0, u "java/lang/Object"), (0, u "<init>"), (0, u "()V"), (9, .double 9218868437227405312), (5, .methodref 23 24), (0, .class_ 25), (0, .nameAndType 26 27), (0, u "[D"), (0, u "clone"), (0, u "()Ljava/lang/Object;"), (0, .fieldref 29 30), (0, .class_ 31), (0, .nameAndType 32 25), (0, u "com/example/junctura/junctura/model/PolynomialCost"), (0, u "coefficients"), (0, .class_ 34), (0, u "com/example/junctura/junctura/model/LinkCost"), (0, u "([D)V"), (4, u "(D)D"), (2, u "integral")] 17

def k3c0 : Code := { maxStack := 5, maxLocals := 3, code := prog_34_method_1_code, exceptionTable := #[], attributes := #[] }
def k3m0 : Method := { name := "<init>", desc := "([D)V", sig := { parameters := [(.array .double)], returnType := none }, accessFlags := 129, code := some k3c0 }
def k3c1 : Code := { maxStack := 6, maxLocals := 6, code := prog_34_method_5_code, exceptionTable := #[], attributes := #[] }
def k3m1 : Method := { name := "integral", desc := "(D)D", sig := { parameters := [.double], returnType := some .double }, accessFlags := 1, code := some k3c1 }
/-- com/example/junctura/junctura/model/PolynomialCost -/
def k3 : Class := { plain "com/example/junctura/junctura/model/PolynomialCost" (some 0) with
  accessFlags := 49
  interfaces := #[2]
  cf := some (fileOf pool3 29 #[] #[{ accessFlags := 129, nameIndex := 5, descriptorIndex := 35, attributes := #[] }, { accessFlags := 1, nameIndex := 43, descriptorIndex := 40, attributes := #[] }] 49 2 #[33] #[{ accessFlags := 18, nameIndex := 32, descriptorIndex := 25, attributes := #[] }])
  fields := #[{ name := "coefficients", type := (.array .double), accessFlags := 18, slot := 0, constantValue := 0 }]
  methods := #[k3m0, k3m1]
  instanceTypes := #[(.array .double)]
  staticTypes := #[]
  resolved := Array.replicate 61 none
  statics := none }

def pool4 : Array CpInfo := pool [(1, .class_ 2), (0, u "java/lang/Cloneable"), (0, .class_ 4), (0, u "java/lang/Object")] 2

/-- java/lang/Cloneable -/
def k4 : Class := { plain "java/lang/Cloneable" (some 0) with
  accessFlags := 1537
  interfaces := #[]
  cf := some (fileOf pool4 1 #[] #[] 1537 3 #[] #[])
  fields := #[]
  methods := #[]
  instanceTypes := #[]
  staticTypes := #[]
  resolved := Array.replicate 7 none
  statics := none }

def pool5 : Array CpInfo := pool [(1, u "java/io/Serializable"), (0, .class_ 1), (0, u "java/lang/Object"), (0, .class_ 3)] 3

/-- java/io/Serializable -/
def k5 : Class := { plain "java/io/Serializable" (some 0) with
  accessFlags := 1537
  interfaces := #[]
  cf := some (fileOf pool5 2 #[] #[] 1537 4 #[] #[])
  fields := #[]
  methods := #[]
  instanceTypes := #[]
  staticTypes := #[]
  resolved := Array.replicate 8 none
  statics := none }

/-- the primitive byte -/
def k6 : Class := { plain "byte" none with kind := .primitive 'B', accessFlags := 0x411 }
/-- [B -/
def k7 : Class := { plain "[B" (some 0) with kind := .array 6 .byte, interfaces := #[4, 5], accessFlags := 1041 }

/-- the primitive double -/
def k8 : Class := { plain "double" none with kind := .primitive 'D', accessFlags := 0x411 }
/-- [D -/
def k9 : Class := { plain "[D" (some 0) with kind := .array 8 .double, interfaces := #[4, 5], accessFlags := 1041 }

/-- the primitive int -/
def k10 : Class := { plain "int" none with kind := .primitive 'I', accessFlags := 0x411 }
/-- [I -/
def k11 : Class := { plain "[I" (some 0) with kind := .array 10 .int, interfaces := #[4, 5], accessFlags := 1041 }

def heap : Heap := #[]
def classes : Array Class := #[k0, k1, k2, k3, k4, k5, k6, k7, k8, k9, k10, k11]
def interned : List (Array UInt16 × Addr) := []
def slotsUsed : Nat := 0
def theMethod : MethodId := ⟨1, 1⟩
def args0 : Array Value := #[.int 5, .int 6, .int 7, .int 8, .int 9, .int 3]
def aboutOver (below : List Frame) : State where
  vm := { classes := classes, interned := interned.toArray }
  heap := heap
  slotsUsed := slotsUsed
  threads := #[{ frames := .invoking theMethod args0 :: below }]
def below0 : List Frame := [.native { method := ⟨0, 0⟩, args := #[] }]
def about1 : State := aboutOver below0
def p0 : Program := .bare "" "" ""
def e0 : Env := launch0.env 0 0 0
theorem w_frames : about1.frames = Frame.invoking theMethod args0 :: below0 := rfl
set_option maxRecDepth 65536 in
theorem w_args : argsFit about1.vm theMethod args0 = true := by decide +kernel
set_option maxRecDepth 65536 in
theorem w_heap : heapFits about1 = true := by decide +kernel
set_option maxRecDepth 65536 in
theorem w_runnable : about1.curStatus? = some .runnable := by decide +kernel
set_option maxRecDepth 65536 in
theorem w_alone : about1.alone = true := by decide +kernel
set_option maxRecDepth 65536 in
theorem w_named : about1.methodNamed? x = some theMethod := by decide +kernel
set_option maxRecDepth 65536 in
theorem w_hears : about1.hears theMethod below0 = true := by decide +kernel
set_option maxRecDepth 65536 in
theorem w_ripe : about1.ripe theMethod args0 below0 = true := by decide +kernel
theorem w_running : about1.status = .running := rfl
set_option maxRecDepth 65536 in
theorem w_room : about1.hasRoom e0.platform room_1 = true :=
  launch0.hasRoom_least _ room_1 (by decide +kernel) (by decide +kernel) (by decide +kernel) (by decide +kernel) (by decide +kernel) (by decide +kernel)
theorem allAtoms_all (ts : List Jvm.Cond) (a : Array Jvm.Value) (st : Jvm.State) : (allAtoms ts).before a st = ts.all (fun c => c.before a st) := by
  induction ts with
  | nil => rfl
  | cons c t ih =>
    show (Jvm.Cond.and c (allAtoms t)).before a st = _
    rw [Jvm.Cond.before_and, ih, List.all_cons]
def words1 : List Jvm.Cond := Jvm.Cond.code x code maxLocals ret :: tables_1
/-- a 'code' word, met by the world's own term for the bytes: nothing is compared byte by byte -/
theorem code_word {y : MethodName} {bytes : ByteArray} {mx : Nat} {rt : Option FieldType} {a : Array Value} {s : State} {m : MethodId} {meth : Method} {c : Code} (h1 : s.methodNamed? y = some m) (h2 : s.vm.method? m = some meth) (h3 : meth.code = some c) (h4 : c.code = bytes)
    (h5 : (c.maxLocals == mx && c.exceptionTable.isEmpty && decide (c.maxStack ≤ mostOperands) && decide (meth.sig.returnType = rt) && !meth.locks && decide (parseMethodDescriptor y.desc = some meth.sig)) = true) : (Jvm.Cond.code y bytes mx rt).before a s = true := by
  simp only [Bool.and_eq_true, beq_iff_eq, Bool.not_eq_true', decide_eq_true_eq] at h5
  obtain ⟨⟨⟨⟨⟨g1, g2⟩, g3⟩, g4⟩, g5⟩, g6⟩ := h5
  simp [Cond.before, Cond.holds, Cond.value, h1, h2, h3, h4, g1, g2, g3, g4, g5, g6]
def isCode : Jvm.Cond → Bool
  | .code _ _ _ _ => true
  | _ => false
theorem all_split {L : List Jvm.Cond} {P : Jvm.Cond → Bool} (h1 : L.all (fun c => isCode c || P c) = true) (h2 : ∀ c ∈ L.filter isCode, P c = true) : L.all P = true := by
  refine List.all_eq_true.mpr fun c hc => ?_
  have h := List.all_eq_true.mp h1 c hc
  rcases Bool.eq_false_or_eq_true (isCode c) with hi | hi
  · exact h2 c (List.mem_filter.mpr ⟨hc, hi⟩)
  · simpa [hi] using h
set_option maxRecDepth 65536 in
theorem w_c0 : (Jvm.Cond.code x code maxLocals ret).before args0 about1 = true := code_word (m := ⟨1, 1⟩) (meth := k1m1) (c := k1c1) (by decide +kernel) rfl rfl rfl (by decide +kernel)
set_option maxRecDepth 65536 in
theorem w_c1 : (Jvm.Cond.code ({ cls := "com/example/junctura/junctura/model/PolynomialCost", name := "<init>", desc := "([D)V" } : Jvm.MethodName) prog_34_method_1_code (3 : Nat) (Option.none : Option Jvm.ClassFile.FieldType)).before args0 about1 = true := code_word (m := ⟨3, 0⟩) (meth := k3m0) (c := k3c0) (by decide +kernel) rfl rfl rfl (by decide +kernel)
set_option maxRecDepth 65536 in
theorem w_c2 : (Jvm.Cond.code ({ cls := "java/lang/Object", name := "<init>", desc := "()V" } : Jvm.MethodName) object_method_1_code (1 : Nat) (Option.none : Option Jvm.ClassFile.FieldType)).before args0 about1 = true := code_word (m := ⟨0, 0⟩) (meth := k0m0) (c := k0c0) (by decide +kernel) rfl rfl rfl (by decide +kernel)
set_option maxRecDepth 65536 in
theorem w_c3 : (Jvm.Cond.code ({ cls := "com/example/junctura/junctura/model/PolynomialCost", name := "integral", desc := "(D)D" } : Jvm.MethodName) prog_34_method_5_code (6 : Nat) (Option.some Jvm.ClassFile.FieldType.double)).before args0 about1 = true := code_word (m := ⟨3, 1⟩) (meth := k3m1) (c := k3c1) (by decide +kernel) rfl rfl rfl (by decide +kernel)
def codes1 : List Jvm.Cond := [Jvm.Cond.code x code maxLocals ret, Jvm.Cond.code ({ cls := "com/example/junctura/junctura/model/PolynomialCost", name := "<init>", desc := "([D)V" } : Jvm.MethodName) prog_34_method_1_code (3 : Nat) (Option.none : Option Jvm.ClassFile.FieldType), Jvm.Cond.code ({ cls := "java/lang/Object", name := "<init>", desc := "()V" } : Jvm.MethodName) object_method_1_code (1 : Nat) (Option.none : Option Jvm.ClassFile.FieldType), Jvm.Cond.code ({ cls := "com/example/junctura/junctura/model/PolynomialCost", name := "integral", desc := "(D)D" } : Jvm.MethodName) prog_34_method_5_code (6 : Nat) (Option.some Jvm.ClassFile.FieldType.double)]
set_option maxRecDepth 65536 in
theorem codes_eq : words1.filter isCode = codes1 := rfl
theorem w_codes : ∀ c ∈ words1.filter isCode, c.before args0 about1 = true := by
  rw [codes_eq]
  intro c hc
  simp only [codes1, List.mem_cons, List.not_mem_nil, or_false] at hc
  rcases hc with rfl | rfl | rfl | rfl
  · exact w_c0
  · exact w_c1
  · exact w_c2
  · exact w_c3
set_option maxRecDepth 65536 in
theorem w_t1 : (words1.take 24).all (fun c => isCode c || c.before args0 about1) = true := by decide +kernel
set_option maxRecDepth 65536 in
theorem w_t2 : (words1.drop 24).all (fun c => isCode c || c.before args0 about1) = true := by decide +kernel
theorem w_tables : (allAtoms (Jvm.Cond.code x code maxLocals ret :: tables_1)).before args0 about1 = true := by
  rw [allAtoms_all]
  show words1.all (fun c => c.before args0 about1) = true
  refine all_split ?_ w_codes
  rw [← List.take_append_drop 24 words1, List.all_append, w_t1, w_t2]
  rfl
set_option maxRecDepth 65536 in
theorem w_case : (Jvm.Cond.and given_1 narrow_1).before args0 about1 = true := by decide +kernel
theorem w_applies : (headSpec (Jvm.Cond.code x code maxLocals ret :: tables_1) room_1).applies x e0.platform about1 = true :=
  (Spec.applies_iff w_frames).mpr ⟨w_running, w_runnable, w_alone, w_named, w_hears, w_ripe, w_room, w_tables⟩
theorem atStart : AtStart classFile x code maxLocals ret World_1 tables_1 room_1 Calls_1 rest_1 Pre_1 launch0 p0 e0 about1 theMethod args0 below0 :=
  ⟨lists_1, trivial, launch0.admits_env _ _ _, launch0.least_env, fairChoices_fair.cas, fairChoices_fair.clock, w_frames, w_args, w_heap, w_applies, trivial, trivial, w_case⟩
end start1
theorem witness_1 : WitnessClaimed_1 := ⟨start1.p0, start1.e0, start1.about1, start1.theMethod, start1.args0, start1.below0, start1.atStart⟩
end Jvm.Pilot.@@N@@
