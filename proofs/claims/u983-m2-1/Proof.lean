import JvmDerived
import JvmDerived.Pilot.@@N@@Statement
import JvmDerived.Pilot.@@N@@Code
set_option linter.unusedVariables false
set_option linter.unusedSimpArgs false
namespace Jvm.Own
open Jvm Jvm.ClassFile Sem Op Lib Jvm.Free Jvm.Stand Jvm.LawKit Jvm.RoadKit Bundle
/-- from this point the run comes to its end, and there En holds -/
def Go (p : Program) (l : Launch) (e : Env) (R : Room) (s : State) (m : MethodId) (args : Array Value) (below : List Frame) (meth : Method) (c : Code) (Z : State) (own : String) (n0 : Nat) (Bs : Vm → Heap → Prop) (En : Outcome → State → List Loc → Prop) (h : Heap) (cells slots pc : Nat) (Ls : Array Slot) (S : List Value) : Prop :=
  ∀ (vm0 : Vm) (T : State) (locs : List Loc), Z.Warmed39 vm0 → vm0.findClass own = some m.cls → Bs vm0 h → Stand p l e R (s.setVm vm0) m args below meth c T locs cells slots → Fr n0 locs → T.heap = h →
    ∃ (s₂ : State) (o : Outcome) (L : List Loc), Steps p.tables e below (T.setTop (mkF m pc Ls S)) s₂ ∧ s₂.status = .running ∧ Ended s₂ below o ∧ En o s₂ L
/-- what a walk knows of its method -/
def Cx (p : Program) (meth : Method) (c : Code) (bytes : ByteArray) (ml : Nat) (ret : Option FieldType) : Prop := p.tables.exec = Jvm.exec ∧ c.code = bytes ∧ c.maxLocals = ml ∧ meth.sig.returnType = ret ∧ meth.locks = false
section Rules
variable {p : Program} {l : Launch} {e : Env} {R : Room} {s : State} {m : MethodId} {args : Array Value} {below : List Frame} {meth : Method} {c : Code} {Z : State} {own : String} {n0 : Nat} {Bs : Vm → Heap → Prop} {En : Outcome → State → List Loc → Prop} {h : Heap} {cells slots pc pc' : Nat} {Ls : Array Slot} {S : List Value} {bytes : ByteArray} {ml : Nat} {ret : Option FieldType} {a0 : Array Value}
theorem Go.st {Ls' : Array Slot} {S' : List Value} (f : ∀ T : State, At T m c below → ∀ target, Steps p.tables e below (T.setTop (mkF m pc' Ls' S')) target → Steps p.tables e below (T.setTop (mkF m pc Ls S)) target) (K : Go p l e R s m args below meth c Z own n0 Bs En h cells slots pc' Ls' S') : Go p l e R s m args below meth c Z own n0 Bs En h cells slots pc Ls S := fun vm0 T locs q1 q2 q3 X q4 q5 => by
  obtain ⟨s₂, o, L, h1, h2⟩ := K vm0 T locs q1 q2 q3 X q4 q5
  exact ⟨s₂, o, L, f T X.here _ h1, h2⟩
theorem Go.bs {Bs' : Vm → Heap → Prop} (q : ∀ vm, Bs vm h → Bs' vm h) (K : Go p l e R s m args below meth c Z own n0 Bs' En h cells slots pc Ls S) : Go p l e R s m args below meth c Z own n0 Bs En h cells slots pc Ls S := fun vm0 T locs q1 q2 q3 X q4 q5 => K vm0 T locs q1 q2 (q vm0 q3) X q4 q5
theorem Go.iload (C : Cx p meth c bytes ml ret) {k : Nat} {v : Int32} (hd : decode bytes pc = .ok (.iload k, 2)) (hl : Ls[k]? = some (.val (.int v))) (hp : pc + 2 = pc') (K : Go p l e R s m args below meth c Z own n0 Bs En h cells slots pc' Ls (.int v :: S)) : Go p l e R s m args below meth c Z own n0 Bs En h cells slots pc Ls (S) := by
  subst hp; exact Go.st (fun T X t q => XS.iload X C.1 rfl (hb C.2.1 hd) hl q) K
theorem Go.iloadN (C : Cx p meth c bytes ml ret) {k : Fin 4} {v : Int32} (hd : decode bytes pc = .ok (.iload_n k, 1)) (hl : Ls[k.val]? = some (.val (.int v))) (hp : pc + 1 = pc') (K : Go p l e R s m args below meth c Z own n0 Bs En h cells slots pc' Ls (.int v :: S)) : Go p l e R s m args below meth c Z own n0 Bs En h cells slots pc Ls (S) := by
  subst hp; exact Go.st (fun T X t q => XS.iloadN X C.1 rfl (hb C.2.1 hd) hl q) K
theorem Go.istore (C : Cx p meth c bytes ml ret) {k : Nat} {x : Int32} {L' : Array Slot} (hd : decode bytes pc = .ok (.istore k, 2)) (hl : storeLocals Ls k (.int x) = some L') (hp : pc + 2 = pc') (K : Go p l e R s m args below meth c Z own n0 Bs En h cells slots pc' L' (S)) : Go p l e R s m args below meth c Z own n0 Bs En h cells slots pc Ls (.int x :: S) := by
  subst hp; exact Go.st (fun T X t q => XS.istore X C.1 rfl (hb C.2.1 hd) rfl hl q) K
theorem Go.istoreN (C : Cx p meth c bytes ml ret) {k : Fin 4} {x : Int32} {L' : Array Slot} (hd : decode bytes pc = .ok (.istore_n k, 1)) (hl : storeLocals Ls k.val (.int x) = some L') (hp : pc + 1 = pc') (K : Go p l e R s m args below meth c Z own n0 Bs En h cells slots pc' L' (S)) : Go p l e R s m args below meth c Z own n0 Bs En h cells slots pc Ls (.int x :: S) := by
  subst hp; exact Go.st (fun T X t q => XS.istoreN X C.1 rfl (hb C.2.1 hd) rfl hl q) K
theorem Go.lload (C : Cx p meth c bytes ml ret) {k : Nat} {v : Int64} (hd : decode bytes pc = .ok (.lload k, 2)) (hl : Ls[k]? = some (.val (.long v))) (hp : pc + 2 = pc') (K : Go p l e R s m args below meth c Z own n0 Bs En h cells slots pc' Ls (.long v :: S)) : Go p l e R s m args below meth c Z own n0 Bs En h cells slots pc Ls (S) := by
  subst hp; exact Go.st (fun T X t q => XS.lload X C.1 rfl (hb C.2.1 hd) hl q) K
theorem Go.lloadN (C : Cx p meth c bytes ml ret) {k : Fin 4} {v : Int64} (hd : decode bytes pc = .ok (.lload_n k, 1)) (hl : Ls[k.val]? = some (.val (.long v))) (hp : pc + 1 = pc') (K : Go p l e R s m args below meth c Z own n0 Bs En h cells slots pc' Ls (.long v :: S)) : Go p l e R s m args below meth c Z own n0 Bs En h cells slots pc Ls (S) := by
  subst hp; exact Go.st (fun T X t q => XS.lloadN X C.1 rfl (hb C.2.1 hd) hl q) K
theorem Go.lstore (C : Cx p meth c bytes ml ret) {k : Nat} {x : Int64} {L' : Array Slot} (hd : decode bytes pc = .ok (.lstore k, 2)) (hl : storeLocals Ls k (.long x) = some L') (hp : pc + 2 = pc') (K : Go p l e R s m args below meth c Z own n0 Bs En h cells slots pc' L' (S)) : Go p l e R s m args below meth c Z own n0 Bs En h cells slots pc Ls (.long x :: S) := by
  subst hp; exact Go.st (fun T X t q => XS.lstore X C.1 rfl (hb C.2.1 hd) rfl hl q) K
theorem Go.lstoreN (C : Cx p meth c bytes ml ret) {k : Fin 4} {x : Int64} {L' : Array Slot} (hd : decode bytes pc = .ok (.lstore_n k, 1)) (hl : storeLocals Ls k.val (.long x) = some L') (hp : pc + 1 = pc') (K : Go p l e R s m args below meth c Z own n0 Bs En h cells slots pc' L' (S)) : Go p l e R s m args below meth c Z own n0 Bs En h cells slots pc Ls (.long x :: S) := by
  subst hp; exact Go.st (fun T X t q => XS.lstoreN X C.1 rfl (hb C.2.1 hd) rfl hl q) K
theorem Go.dload (C : Cx p meth c bytes ml ret) {k : Nat} {v : UInt64} (hd : decode bytes pc = .ok (.dload k, 2)) (hl : Ls[k]? = some (.val (.double v))) (hp : pc + 2 = pc') (K : Go p l e R s m args below meth c Z own n0 Bs En h cells slots pc' Ls (.double v :: S)) : Go p l e R s m args below meth c Z own n0 Bs En h cells slots pc Ls (S) := by
  subst hp; exact Go.st (fun T X t q => XS.dload X C.1 rfl (hb C.2.1 hd) hl q) K
theorem Go.dloadN (C : Cx p meth c bytes ml ret) {k : Fin 4} {v : UInt64} (hd : decode bytes pc = .ok (.dload_n k, 1)) (hl : Ls[k.val]? = some (.val (.double v))) (hp : pc + 1 = pc') (K : Go p l e R s m args below meth c Z own n0 Bs En h cells slots pc' Ls (.double v :: S)) : Go p l e R s m args below meth c Z own n0 Bs En h cells slots pc Ls (S) := by
  subst hp; exact Go.st (fun T X t q => XS.dloadN X C.1 rfl (hb C.2.1 hd) hl q) K
theorem Go.dstore (C : Cx p meth c bytes ml ret) {k : Nat} {x : UInt64} {L' : Array Slot} (hd : decode bytes pc = .ok (.dstore k, 2)) (hl : storeLocals Ls k (.double x) = some L') (hp : pc + 2 = pc') (K : Go p l e R s m args below meth c Z own n0 Bs En h cells slots pc' L' (S)) : Go p l e R s m args below meth c Z own n0 Bs En h cells slots pc Ls (.double x :: S) := by
  subst hp; exact Go.st (fun T X t q => XS.dstore X C.1 rfl (hb C.2.1 hd) rfl hl q) K
theorem Go.dstoreN (C : Cx p meth c bytes ml ret) {k : Fin 4} {x : UInt64} {L' : Array Slot} (hd : decode bytes pc = .ok (.dstore_n k, 1)) (hl : storeLocals Ls k.val (.double x) = some L') (hp : pc + 1 = pc') (K : Go p l e R s m args below meth c Z own n0 Bs En h cells slots pc' L' (S)) : Go p l e R s m args below meth c Z own n0 Bs En h cells slots pc Ls (.double x :: S) := by
  subst hp; exact Go.st (fun T X t q => XS.dstoreN X C.1 rfl (hb C.2.1 hd) rfl hl q) K
theorem Go.aload (C : Cx p meth c bytes ml ret) {k : Nat} {v : Value} (hd : decode bytes pc = .ok (.aload k, 2)) (hl : Ls[k]? = some (.val v)) (hv : v.isRef = true) (hp : pc + 2 = pc') (K : Go p l e R s m args below meth c Z own n0 Bs En h cells slots pc' Ls (v :: S)) : Go p l e R s m args below meth c Z own n0 Bs En h cells slots pc Ls (S) := by
  subst hp; exact Go.st (fun T X t q => XS.aload X C.1 rfl (hb C.2.1 hd) hl hv q) K
theorem Go.aloadN (C : Cx p meth c bytes ml ret) {k : Fin 4} {v : Value} (hd : decode bytes pc = .ok (.aload_n k, 1)) (hl : Ls[k.val]? = some (.val v)) (hv : v.isRef = true) (hp : pc + 1 = pc') (K : Go p l e R s m args below meth c Z own n0 Bs En h cells slots pc' Ls (v :: S)) : Go p l e R s m args below meth c Z own n0 Bs En h cells slots pc Ls (S) := by
  subst hp; exact Go.st (fun T X t q => XS.aloadN X C.1 rfl (hb C.2.1 hd) hl hv q) K
theorem Go.astore (C : Cx p meth c bytes ml ret) {k : Nat} {x : Value} {L' : Array Slot} (hd : decode bytes pc = .ok (.astore k, 2)) (hv : x.isRef = true) (hl : storeLocals Ls k x = some L') (hp : pc + 2 = pc') (K : Go p l e R s m args below meth c Z own n0 Bs En h cells slots pc' L' (S)) : Go p l e R s m args below meth c Z own n0 Bs En h cells slots pc Ls (x :: S) := by
  subst hp; exact Go.st (fun T X t q => XS.astore X C.1 rfl (hb C.2.1 hd) rfl hv hl q) K
theorem Go.astoreN (C : Cx p meth c bytes ml ret) {k : Fin 4} {x : Value} {L' : Array Slot} (hd : decode bytes pc = .ok (.astore_n k, 1)) (hv : x.isRef = true) (hl : storeLocals Ls k.val x = some L') (hp : pc + 1 = pc') (K : Go p l e R s m args below meth c Z own n0 Bs En h cells slots pc' L' (S)) : Go p l e R s m args below meth c Z own n0 Bs En h cells slots pc Ls (x :: S) := by
  subst hp; exact Go.st (fun T X t q => XS.astoreN X C.1 rfl (hb C.2.1 hd) rfl hv hl q) K
theorem Go.iconst (C : Cx p meth c bytes ml ret) {i : Int} {v : Int32} (hd : decode bytes pc = .ok (.iconst i, 1)) (hv : Int32.ofInt i = v) (hp : pc + 1 = pc') (K : Go p l e R s m args below meth c Z own n0 Bs En h cells slots pc' Ls (.int v :: S)) : Go p l e R s m args below meth c Z own n0 Bs En h cells slots pc Ls (S) := by
  subst hp; exact Go.st (fun T X t q => by subst hv; exact XS.iconst X C.1 rfl (hb C.2.1 hd)  q) K
theorem Go.lconst (C : Cx p meth c bytes ml ret) {k : Fin 2} {v : Int64} (hd : decode bytes pc = .ok (.lconst k, 1)) (hv : Int64.ofNat k = v) (hp : pc + 1 = pc') (K : Go p l e R s m args below meth c Z own n0 Bs En h cells slots pc' Ls (.long v :: S)) : Go p l e R s m args below meth c Z own n0 Bs En h cells slots pc Ls (S) := by
  subst hp; exact Go.st (fun T X t q => by subst hv; exact XS.lconst X C.1 rfl (hb C.2.1 hd)  q) K
theorem Go.dconst0 (C : Cx p meth c bytes ml ret) {v : UInt64} (hd : decode bytes pc = .ok (.dconst 0, 1)) (hv : FP.dconst0 = v) (hp : pc + 1 = pc') (K : Go p l e R s m args below meth c Z own n0 Bs En h cells slots pc' Ls (.double v :: S)) : Go p l e R s m args below meth c Z own n0 Bs En h cells slots pc Ls (S) := by
  subst hp; exact Go.st (fun T X t q => XS.dconst0 X C.1 rfl (hb C.2.1 hd) hv q) K
theorem Go.dconst1 (C : Cx p meth c bytes ml ret) {v : UInt64} (hd : decode bytes pc = .ok (.dconst 1, 1)) (hv : FP.dconst1 = v) (hp : pc + 1 = pc') (K : Go p l e R s m args below meth c Z own n0 Bs En h cells slots pc' Ls (.double v :: S)) : Go p l e R s m args below meth c Z own n0 Bs En h cells slots pc Ls (S) := by
  subst hp; exact Go.st (fun T X t q => XS.dconst1 X C.1 rfl (hb C.2.1 hd) hv q) K
theorem Go.bipush (C : Cx p meth c bytes ml ret) {i : Int} {v : Int32} (hd : decode bytes pc = .ok (.bipush i, 2)) (hv : (Int8.ofInt i).toInt32 = v) (hp : pc + 2 = pc') (K : Go p l e R s m args below meth c Z own n0 Bs En h cells slots pc' Ls (.int v :: S)) : Go p l e R s m args below meth c Z own n0 Bs En h cells slots pc Ls (S) := by
  subst hp; exact Go.st (fun T X t q => by subst hv; exact XS.bipush X C.1 rfl (hb C.2.1 hd)  q) K
theorem Go.sipush (C : Cx p meth c bytes ml ret) {i : Int} {v : Int32} (hd : decode bytes pc = .ok (.sipush i, 3)) (hv : (Int16.ofInt i).toInt32 = v) (hp : pc + 3 = pc') (K : Go p l e R s m args below meth c Z own n0 Bs En h cells slots pc' Ls (.int v :: S)) : Go p l e R s m args below meth c Z own n0 Bs En h cells slots pc Ls (S) := by
  subst hp; exact Go.st (fun T X t q => by subst hv; exact XS.sipush X C.1 rfl (hb C.2.1 hd)  q) K
theorem Go.aconstNull (C : Cx p meth c bytes ml ret)  (hd : decode bytes pc = .ok (.aconst_null, 1))  (hp : pc + 1 = pc') (K : Go p l e R s m args below meth c Z own n0 Bs En h cells slots pc' Ls (.null :: S)) : Go p l e R s m args below meth c Z own n0 Bs En h cells slots pc Ls (S) := by
  subst hp; exact Go.st (fun T X t q => XS.aconstNull X C.1 rfl (hb C.2.1 hd)  q) K
theorem Go.dup (C : Cx p meth c bytes ml ret) {x : Value} (hd : decode bytes pc = .ok (.dup, 1)) (hc : x.category = 1) (hp : pc + 1 = pc') (K : Go p l e R s m args below meth c Z own n0 Bs En h cells slots pc' Ls (x :: x :: S)) : Go p l e R s m args below meth c Z own n0 Bs En h cells slots pc Ls (x :: S) := by
  subst hp; exact Go.st (fun T X t q => XS.dup X C.1 rfl (hb C.2.1 hd) rfl hc q) K
theorem Go.dupX1 (C : Cx p meth c bytes ml ret) {x y : Value} (hd : decode bytes pc = .ok (.dup_x1, 1)) (hc : x.category = 1) (hc2 : y.category = 1) (hp : pc + 1 = pc') (K : Go p l e R s m args below meth c Z own n0 Bs En h cells slots pc' Ls (x :: y :: x :: S)) : Go p l e R s m args below meth c Z own n0 Bs En h cells slots pc Ls (x :: y :: S) := by
  subst hp; exact Go.st (fun T X t q => XS.dupX1 X C.1 rfl (hb C.2.1 hd) rfl hc hc2 q) K
theorem Go.pop (C : Cx p meth c bytes ml ret) {x : Value} (hd : decode bytes pc = .ok (.pop, 1)) (hc : x.category = 1) (hp : pc + 1 = pc') (K : Go p l e R s m args below meth c Z own n0 Bs En h cells slots pc' Ls (S)) : Go p l e R s m args below meth c Z own n0 Bs En h cells slots pc Ls (x :: S) := by
  subst hp; exact Go.st (fun T X t q => XS.pop X C.1 rfl (hb C.2.1 hd) rfl hc q) K
theorem Go.iadd (C : Cx p meth c bytes ml ret) {x y : Int32} (hd : decode bytes pc = .ok (.iadd, 1))  (hp : pc + 1 = pc') (K : Go p l e R s m args below meth c Z own n0 Bs En h cells slots pc' Ls (.int (x + y) :: S)) : Go p l e R s m args below meth c Z own n0 Bs En h cells slots pc Ls (.int y :: .int x :: S) := by
  subst hp; exact Go.st (fun T X t q => XS.iadd X C.1 rfl (hb C.2.1 hd) rfl q) K
theorem Go.isub (C : Cx p meth c bytes ml ret) {x y : Int32} (hd : decode bytes pc = .ok (.isub, 1))  (hp : pc + 1 = pc') (K : Go p l e R s m args below meth c Z own n0 Bs En h cells slots pc' Ls (.int (x - y) :: S)) : Go p l e R s m args below meth c Z own n0 Bs En h cells slots pc Ls (.int y :: .int x :: S) := by
  subst hp; exact Go.st (fun T X t q => XS.isub X C.1 rfl (hb C.2.1 hd) rfl q) K
theorem Go.imul (C : Cx p meth c bytes ml ret) {x y : Int32} (hd : decode bytes pc = .ok (.imul, 1))  (hp : pc + 1 = pc') (K : Go p l e R s m args below meth c Z own n0 Bs En h cells slots pc' Ls (.int (x * y) :: S)) : Go p l e R s m args below meth c Z own n0 Bs En h cells slots pc Ls (.int y :: .int x :: S) := by
  subst hp; exact Go.st (fun T X t q => XS.imul X C.1 rfl (hb C.2.1 hd) rfl q) K
theorem Go.iand (C : Cx p meth c bytes ml ret) {x y : Int32} (hd : decode bytes pc = .ok (.iand, 1))  (hp : pc + 1 = pc') (K : Go p l e R s m args below meth c Z own n0 Bs En h cells slots pc' Ls (.int (x &&& y) :: S)) : Go p l e R s m args below meth c Z own n0 Bs En h cells slots pc Ls (.int y :: .int x :: S) := by
  subst hp; exact Go.st (fun T X t q => XS.iand X C.1 rfl (hb C.2.1 hd) rfl q) K
theorem Go.ior (C : Cx p meth c bytes ml ret) {x y : Int32} (hd : decode bytes pc = .ok (.ior, 1))  (hp : pc + 1 = pc') (K : Go p l e R s m args below meth c Z own n0 Bs En h cells slots pc' Ls (.int (x ||| y) :: S)) : Go p l e R s m args below meth c Z own n0 Bs En h cells slots pc Ls (.int y :: .int x :: S) := by
  subst hp; exact Go.st (fun T X t q => XS.ior X C.1 rfl (hb C.2.1 hd) rfl q) K
theorem Go.ixor (C : Cx p meth c bytes ml ret) {x y : Int32} (hd : decode bytes pc = .ok (.ixor, 1))  (hp : pc + 1 = pc') (K : Go p l e R s m args below meth c Z own n0 Bs En h cells slots pc' Ls (.int (x ^^^ y) :: S)) : Go p l e R s m args below meth c Z own n0 Bs En h cells slots pc Ls (.int y :: .int x :: S) := by
  subst hp; exact Go.st (fun T X t q => XS.ixor X C.1 rfl (hb C.2.1 hd) rfl q) K
theorem Go.ishl (C : Cx p meth c bytes ml ret) {x y : Int32} (hd : decode bytes pc = .ok (.ishl, 1))  (hp : pc + 1 = pc') (K : Go p l e R s m args below meth c Z own n0 Bs En h cells slots pc' Ls (.int (x <<< (y &&& 31)) :: S)) : Go p l e R s m args below meth c Z own n0 Bs En h cells slots pc Ls (.int y :: .int x :: S) := by
  subst hp; exact Go.st (fun T X t q => XS.ishl X C.1 rfl (hb C.2.1 hd) rfl q) K
theorem Go.ishr (C : Cx p meth c bytes ml ret) {x y : Int32} (hd : decode bytes pc = .ok (.ishr, 1))  (hp : pc + 1 = pc') (K : Go p l e R s m args below meth c Z own n0 Bs En h cells slots pc' Ls (.int (x >>> (y &&& 31)) :: S)) : Go p l e R s m args below meth c Z own n0 Bs En h cells slots pc Ls (.int y :: .int x :: S) := by
  subst hp; exact Go.st (fun T X t q => XS.ishr X C.1 rfl (hb C.2.1 hd) rfl q) K
theorem Go.iushr (C : Cx p meth c bytes ml ret) {x y : Int32} (hd : decode bytes pc = .ok (.iushr, 1))  (hp : pc + 1 = pc') (K : Go p l e R s m args below meth c Z own n0 Bs En h cells slots pc' Ls (.int ((x.toUInt32 >>> (y &&& 31).toUInt32).toInt32) :: S)) : Go p l e R s m args below meth c Z own n0 Bs En h cells slots pc Ls (.int y :: .int x :: S) := by
  subst hp; exact Go.st (fun T X t q => XS.iushr X C.1 rfl (hb C.2.1 hd) rfl q) K
theorem Go.idiv (C : Cx p meth c bytes ml ret) {x y : Int32} (hd : decode bytes pc = .ok (.idiv, 1)) (hy : y ≠ 0) (hp : pc + 1 = pc') (K : Go p l e R s m args below meth c Z own n0 Bs En h cells slots pc' Ls (.int (x / y) :: S)) : Go p l e R s m args below meth c Z own n0 Bs En h cells slots pc Ls (.int y :: .int x :: S) := by
  subst hp; exact Go.st (fun T X t q => XS.idiv X C.1 rfl (hb C.2.1 hd) rfl hy q) K
theorem Go.irem (C : Cx p meth c bytes ml ret) {x y : Int32} (hd : decode bytes pc = .ok (.irem, 1)) (hy : y ≠ 0) (hp : pc + 1 = pc') (K : Go p l e R s m args below meth c Z own n0 Bs En h cells slots pc' Ls (.int (x % y) :: S)) : Go p l e R s m args below meth c Z own n0 Bs En h cells slots pc Ls (.int y :: .int x :: S) := by
  subst hp; exact Go.st (fun T X t q => XS.irem X C.1 rfl (hb C.2.1 hd) rfl hy (by rw [irem_eq_mod]; exact q)) K
theorem Go.ladd (C : Cx p meth c bytes ml ret) {x y : Int64} (hd : decode bytes pc = .ok (.ladd, 1))  (hp : pc + 1 = pc') (K : Go p l e R s m args below meth c Z own n0 Bs En h cells slots pc' Ls (.long (x + y) :: S)) : Go p l e R s m args below meth c Z own n0 Bs En h cells slots pc Ls (.long y :: .long x :: S) := by
  subst hp; exact Go.st (fun T X t q => XS.ladd X C.1 rfl (hb C.2.1 hd) rfl q) K
theorem Go.lsub (C : Cx p meth c bytes ml ret) {x y : Int64} (hd : decode bytes pc = .ok (.lsub, 1))  (hp : pc + 1 = pc') (K : Go p l e R s m args below meth c Z own n0 Bs En h cells slots pc' Ls (.long (x - y) :: S)) : Go p l e R s m args below meth c Z own n0 Bs En h cells slots pc Ls (.long y :: .long x :: S) := by
  subst hp; exact Go.st (fun T X t q => XS.lsub X C.1 rfl (hb C.2.1 hd) rfl q) K
theorem Go.lmul (C : Cx p meth c bytes ml ret) {x y : Int64} (hd : decode bytes pc = .ok (.lmul, 1))  (hp : pc + 1 = pc') (K : Go p l e R s m args below meth c Z own n0 Bs En h cells slots pc' Ls (.long (x * y) :: S)) : Go p l e R s m args below meth c Z own n0 Bs En h cells slots pc Ls (.long y :: .long x :: S) := by
  subst hp; exact Go.st (fun T X t q => XS.lmul X C.1 rfl (hb C.2.1 hd) rfl q) K
theorem Go.land (C : Cx p meth c bytes ml ret) {x y : Int64} (hd : decode bytes pc = .ok (.land, 1))  (hp : pc + 1 = pc') (K : Go p l e R s m args below meth c Z own n0 Bs En h cells slots pc' Ls (.long (x &&& y) :: S)) : Go p l e R s m args below meth c Z own n0 Bs En h cells slots pc Ls (.long y :: .long x :: S) := by
  subst hp; exact Go.st (fun T X t q => XS.land X C.1 rfl (hb C.2.1 hd) rfl q) K
theorem Go.lor (C : Cx p meth c bytes ml ret) {x y : Int64} (hd : decode bytes pc = .ok (.lor, 1))  (hp : pc + 1 = pc') (K : Go p l e R s m args below meth c Z own n0 Bs En h cells slots pc' Ls (.long (x ||| y) :: S)) : Go p l e R s m args below meth c Z own n0 Bs En h cells slots pc Ls (.long y :: .long x :: S) := by
  subst hp; exact Go.st (fun T X t q => XS.lor X C.1 rfl (hb C.2.1 hd) rfl q) K
theorem Go.lxor (C : Cx p meth c bytes ml ret) {x y : Int64} (hd : decode bytes pc = .ok (.lxor, 1))  (hp : pc + 1 = pc') (K : Go p l e R s m args below meth c Z own n0 Bs En h cells slots pc' Ls (.long (x ^^^ y) :: S)) : Go p l e R s m args below meth c Z own n0 Bs En h cells slots pc Ls (.long y :: .long x :: S) := by
  subst hp; exact Go.st (fun T X t q => XS.lxor X C.1 rfl (hb C.2.1 hd) rfl q) K
theorem Go.lshl (C : Cx p meth c bytes ml ret) {x : Int64} {y : Int32} (hd : decode bytes pc = .ok (.lshl, 1))  (hp : pc + 1 = pc') (K : Go p l e R s m args below meth c Z own n0 Bs En h cells slots pc' Ls (.long (x <<< (y &&& 0x3f).toInt64) :: S)) : Go p l e R s m args below meth c Z own n0 Bs En h cells slots pc Ls (.int y :: .long x :: S) := by
  subst hp; exact Go.st (fun T X t q => XS.lshl X C.1 rfl (hb C.2.1 hd) rfl q) K
theorem Go.lshr (C : Cx p meth c bytes ml ret) {x : Int64} {y : Int32} (hd : decode bytes pc = .ok (.lshr, 1))  (hp : pc + 1 = pc') (K : Go p l e R s m args below meth c Z own n0 Bs En h cells slots pc' Ls (.long (x >>> (y &&& 0x3f).toInt64) :: S)) : Go p l e R s m args below meth c Z own n0 Bs En h cells slots pc Ls (.int y :: .long x :: S) := by
  subst hp; exact Go.st (fun T X t q => XS.lshr X C.1 rfl (hb C.2.1 hd) rfl q) K
theorem Go.lushr (C : Cx p meth c bytes ml ret) {x : Int64} {y : Int32} (hd : decode bytes pc = .ok (.lushr, 1))  (hp : pc + 1 = pc') (K : Go p l e R s m args below meth c Z own n0 Bs En h cells slots pc' Ls (.long ((x.toUInt64 >>> (y &&& 0x3f).toInt64.toUInt64).toInt64) :: S)) : Go p l e R s m args below meth c Z own n0 Bs En h cells slots pc Ls (.int y :: .long x :: S) := by
  subst hp; exact Go.st (fun T X t q => XS.lushr X C.1 rfl (hb C.2.1 hd) rfl q) K
theorem Go.ineg (C : Cx p meth c bytes ml ret) {v : Int32} (hd : decode bytes pc = .ok (.ineg, 1))  (hp : pc + 1 = pc') (K : Go p l e R s m args below meth c Z own n0 Bs En h cells slots pc' Ls (.int (-v) :: S)) : Go p l e R s m args below meth c Z own n0 Bs En h cells slots pc Ls (.int v :: S) := by
  subst hp; exact Go.st (fun T X t q => XS.ineg X C.1 rfl (hb C.2.1 hd) rfl q) K
theorem Go.i2b (C : Cx p meth c bytes ml ret) {v : Int32} (hd : decode bytes pc = .ok (.i2b, 1))  (hp : pc + 1 = pc') (K : Go p l e R s m args below meth c Z own n0 Bs En h cells slots pc' Ls (.int (v.toInt8.toInt32) :: S)) : Go p l e R s m args below meth c Z own n0 Bs En h cells slots pc Ls (.int v :: S) := by
  subst hp; exact Go.st (fun T X t q => XS.i2b X C.1 rfl (hb C.2.1 hd) rfl q) K
theorem Go.i2c (C : Cx p meth c bytes ml ret) {v : Int32} (hd : decode bytes pc = .ok (.i2c, 1))  (hp : pc + 1 = pc') (K : Go p l e R s m args below meth c Z own n0 Bs En h cells slots pc' Ls (.int (v.toUInt32.toUInt16.toUInt32.toInt32) :: S)) : Go p l e R s m args below meth c Z own n0 Bs En h cells slots pc Ls (.int v :: S) := by
  subst hp; exact Go.st (fun T X t q => XS.i2c X C.1 rfl (hb C.2.1 hd) rfl q) K
theorem Go.i2s (C : Cx p meth c bytes ml ret) {v : Int32} (hd : decode bytes pc = .ok (.i2s, 1))  (hp : pc + 1 = pc') (K : Go p l e R s m args below meth c Z own n0 Bs En h cells slots pc' Ls (.int (v.toInt16.toInt32) :: S)) : Go p l e R s m args below meth c Z own n0 Bs En h cells slots pc Ls (.int v :: S) := by
  subst hp; exact Go.st (fun T X t q => XS.i2s X C.1 rfl (hb C.2.1 hd) rfl q) K
theorem Go.i2l (C : Cx p meth c bytes ml ret) {v : Int32} (hd : decode bytes pc = .ok (.i2l, 1))  (hp : pc + 1 = pc') (K : Go p l e R s m args below meth c Z own n0 Bs En h cells slots pc' Ls (.long (v.toInt64) :: S)) : Go p l e R s m args below meth c Z own n0 Bs En h cells slots pc Ls (.int v :: S) := by
  subst hp; exact Go.st (fun T X t q => XS.i2l X C.1 rfl (hb C.2.1 hd) rfl q) K
theorem Go.l2i (C : Cx p meth c bytes ml ret) {v : Int64} (hd : decode bytes pc = .ok (.l2i, 1))  (hp : pc + 1 = pc') (K : Go p l e R s m args below meth c Z own n0 Bs En h cells slots pc' Ls (.int (v.toInt32) :: S)) : Go p l e R s m args below meth c Z own n0 Bs En h cells slots pc Ls (.long v :: S) := by
  subst hp; exact Go.st (fun T X t q => XS.l2i X C.1 rfl (hb C.2.1 hd) rfl q) K
theorem Go.lneg (C : Cx p meth c bytes ml ret) {v : Int64} (hd : decode bytes pc = .ok (.lneg, 1))  (hp : pc + 1 = pc') (K : Go p l e R s m args below meth c Z own n0 Bs En h cells slots pc' Ls (.long (-v) :: S)) : Go p l e R s m args below meth c Z own n0 Bs En h cells slots pc Ls (.long v :: S) := by
  subst hp; exact Go.st (fun T X t q => XS.lneg X C.1 rfl (hb C.2.1 hd) rfl q) K
theorem Go.lcmp (C : Cx p meth c bytes ml ret) {x y : Int64} (hd : decode bytes pc = .ok (.lcmp, 1))  (hp : pc + 1 = pc') (K : Go p l e R s m args below meth c Z own n0 Bs En h cells slots pc' Ls (.int (lcmpW x y) :: S)) : Go p l e R s m args below meth c Z own n0 Bs En h cells slots pc Ls (.long y :: .long x :: S) := by
  subst hp; exact Go.st (fun T X t q => XS.lcmp X C.1 rfl (hb C.2.1 hd) rfl q) K
theorem Go.i2d (C : Cx p meth c bytes ml ret) {x : Int32} {v : UInt64} (hd : decode bytes pc = .ok (.i2d, 1)) (hv : FP.i2d x = v) (hp : pc + 1 = pc') (K : Go p l e R s m args below meth c Z own n0 Bs En h cells slots pc' Ls (.double v :: S)) : Go p l e R s m args below meth c Z own n0 Bs En h cells slots pc Ls (.int x :: S) := by
  subst hp; exact Go.st (fun T X t q => XS.i2dS X C.1 rfl (hb C.2.1 hd) rfl hv q) K
theorem Go.l2d (C : Cx p meth c bytes ml ret) {x : Int64} {v : UInt64} (hd : decode bytes pc = .ok (.l2d, 1)) (hv : FP.l2d x = v) (hp : pc + 1 = pc') (K : Go p l e R s m args below meth c Z own n0 Bs En h cells slots pc' Ls (.double v :: S)) : Go p l e R s m args below meth c Z own n0 Bs En h cells slots pc Ls (.long x :: S) := by
  subst hp; exact Go.st (fun T X t q => XS.l2dS X C.1 rfl (hb C.2.1 hd) rfl hv q) K
theorem Go.dadd (C : Cx p meth c bytes ml ret) {x y v : UInt64} (hd : decode bytes pc = .ok (.dadd, 1)) (hn : Jvm.Free.Fl.NoNaN64 (FP.dadd x y)) (hv : FP.dadd x y = v) (hp : pc + 1 = pc') (K : Go p l e R s m args below meth c Z own n0 Bs En h cells slots pc' Ls (.double v :: S)) : Go p l e R s m args below meth c Z own n0 Bs En h cells slots pc Ls (.double y :: .double x :: S) := by
  subst hp; exact Go.st (fun T X t q => XS.daddS X C.1 rfl (hb C.2.1 hd) rfl hn hv q) K
theorem Go.dsub (C : Cx p meth c bytes ml ret) {x y v : UInt64} (hd : decode bytes pc = .ok (.dsub, 1)) (hn : Jvm.Free.Fl.NoNaN64 (FP.dsub x y)) (hv : FP.dsub x y = v) (hp : pc + 1 = pc') (K : Go p l e R s m args below meth c Z own n0 Bs En h cells slots pc' Ls (.double v :: S)) : Go p l e R s m args below meth c Z own n0 Bs En h cells slots pc Ls (.double y :: .double x :: S) := by
  subst hp; exact Go.st (fun T X t q => XS.dsubS X C.1 rfl (hb C.2.1 hd) rfl hn hv q) K
theorem Go.dmul (C : Cx p meth c bytes ml ret) {x y v : UInt64} (hd : decode bytes pc = .ok (.dmul, 1)) (hn : Jvm.Free.Fl.NoNaN64 (FP.dmul x y)) (hv : FP.dmul x y = v) (hp : pc + 1 = pc') (K : Go p l e R s m args below meth c Z own n0 Bs En h cells slots pc' Ls (.double v :: S)) : Go p l e R s m args below meth c Z own n0 Bs En h cells slots pc Ls (.double y :: .double x :: S) := by
  subst hp; exact Go.st (fun T X t q => XS.dmulS X C.1 rfl (hb C.2.1 hd) rfl hn hv q) K
theorem Go.ddiv (C : Cx p meth c bytes ml ret) {x y v : UInt64} (hd : decode bytes pc = .ok (.ddiv, 1)) (hn : Jvm.Free.Fl.NoNaN64 (FP.ddiv x y)) (hv : FP.ddiv x y = v) (hp : pc + 1 = pc') (K : Go p l e R s m args below meth c Z own n0 Bs En h cells slots pc' Ls (.double v :: S)) : Go p l e R s m args below meth c Z own n0 Bs En h cells slots pc Ls (.double y :: .double x :: S) := by
  subst hp; exact Go.st (fun T X t q => XS.ddivS X C.1 rfl (hb C.2.1 hd) rfl hn hv q) K
theorem Go.dcmp (C : Cx p meth c bytes ml ret) {o : CmpOp} {x y : UInt64} {v : Int32} (hd : decode bytes pc = .ok (.dcmp o, 1)) (hv : cmpValue (FP.dcmp x y) o = v) (hp : pc + 1 = pc') (K : Go p l e R s m args below meth c Z own n0 Bs En h cells slots pc' Ls (.int v :: S)) : Go p l e R s m args below meth c Z own n0 Bs En h cells slots pc Ls (.double y :: .double x :: S) := by
  subst hp; exact Go.st (fun T X t q => XS.dcmpS X C.1 rfl (hb C.2.1 hd) rfl hv q) K
theorem Go.iinc (C : Cx p meth c bytes ml ret) {k : Nat} {cst : Int} {x y : Int32} {L' : Array Slot} (hd : decode bytes pc = .ok (.iinc k cst, 3)) (hl : Ls[k]? = some (.val (.int x))) (hy : x + Int32.ofInt cst = y) (hl' : storeLocals Ls k (.int y) = some L') (hp : pc + 3 = pc') (K : Go p l e R s m args below meth c Z own n0 Bs En h cells slots pc' L' (S)) : Go p l e R s m args below meth c Z own n0 Bs En h cells slots pc Ls (S) := by
  subst hp; exact Go.st (fun T X t q => by subst hy; exact XS.iinc X C.1 rfl (hb C.2.1 hd) hl hl' q) K
theorem Go.goto (C : Cx p meth c bytes ml ret) {o : Int} (hd : decode bytes pc = .ok (.goto o, 3)) (ho : 0 ≤ (pc : Int) + o) (hp : ((pc : Int) + o).toNat = pc') (K : Go p l e R s m args below meth c Z own n0 Bs En h cells slots pc' Ls S) : Go p l e R s m args below meth c Z own n0 Bs En h cells slots pc Ls S := Go.st (fun T X t q => XS.goto X C.1 rfl rfl (hb C.2.1 hd) ho hp q) K
theorem Go.icmp_eq_t (C : Cx p meth c bytes ml ret) {x y : Int32} {o : Int} (hd : decode bytes pc = .ok (.if_icmp .eq o, 3)) (H : x = y) (ho : 0 ≤ (pc : Int) + o) (hp : ((pc : Int) + o).toNat = pc') (K : Go p l e R s m args below meth c Z own n0 Bs En h cells slots pc' Ls S) : Go p l e R s m args below meth c Z own n0 Bs En h cells slots pc Ls (.int y :: .int x :: S) := Go.st (fun T X t q => XS.icmpYes X C.1 rfl rfl (hb C.2.1 hd) rfl ((teq H).1) ho hp q) K
theorem Go.icmp_eq_f (C : Cx p meth c bytes ml ret) {x y : Int32} {o : Int} (hd : decode bytes pc = .ok (.if_icmp .eq o, 3)) (H : ¬ x = y) (hp : pc + 3 = pc') (K : Go p l e R s m args below meth c Z own n0 Bs En h cells slots pc' Ls S) : Go p l e R s m args below meth c Z own n0 Bs En h cells slots pc Ls (.int y :: .int x :: S) := by
  subst hp; exact Go.st (fun T X t q => XS.icmpNo X C.1 rfl (hb C.2.1 hd) rfl ((feq H).1) q) K
theorem Go.icmp_eq (C : Cx p meth c bytes ml ret) {pc1 pc2 : Nat} {x y : Int32} {o : Int} (hd : decode bytes pc = .ok (.if_icmp .eq o, 3)) (ho : 0 ≤ (pc : Int) + o) (hp : ((pc : Int) + o).toNat = pc1) (hp2 : pc + 3 = pc2) (K1 : x = y → Go p l e R s m args below meth c Z own n0 Bs En h cells slots pc1 Ls S) (K2 : ¬ x = y → Go p l e R s m args below meth c Z own n0 Bs En h cells slots pc2 Ls S) : Go p l e R s m args below meth c Z own n0 Bs En h cells slots pc Ls (.int y :: .int x :: S) := by
  by_cases H : x = y
  · exact Go.icmp_eq_t C hd H ho hp (K1 H)
  · exact Go.icmp_eq_f C hd H hp2 (K2 H)
theorem Go.if_eq_t (C : Cx p meth c bytes ml ret) {x : Int32} {o : Int} (hd : decode bytes pc = .ok (.ifCond .eq o, 3)) (H : x = 0) (ho : 0 ≤ (pc : Int) + o) (hp : ((pc : Int) + o).toNat = pc') (K : Go p l e R s m args below meth c Z own n0 Bs En h cells slots pc' Ls S) : Go p l e R s m args below meth c Z own n0 Bs En h cells slots pc Ls (.int x :: S) := Go.st (fun T X t q => XS.ifYes X C.1 rfl rfl (hb C.2.1 hd) rfl ((if0 _ _).trans ((teq H).1)) ho hp q) K
theorem Go.if_eq_f (C : Cx p meth c bytes ml ret) {x : Int32} {o : Int} (hd : decode bytes pc = .ok (.ifCond .eq o, 3)) (H : ¬ x = 0) (hp : pc + 3 = pc') (K : Go p l e R s m args below meth c Z own n0 Bs En h cells slots pc' Ls S) : Go p l e R s m args below meth c Z own n0 Bs En h cells slots pc Ls (.int x :: S) := by
  subst hp; exact Go.st (fun T X t q => XS.ifNo X C.1 rfl (hb C.2.1 hd) rfl ((if0 _ _).trans ((feq H).1)) q) K
theorem Go.if_eq (C : Cx p meth c bytes ml ret) {pc1 pc2 : Nat} {x : Int32} {o : Int} (hd : decode bytes pc = .ok (.ifCond .eq o, 3)) (ho : 0 ≤ (pc : Int) + o) (hp : ((pc : Int) + o).toNat = pc1) (hp2 : pc + 3 = pc2) (K1 : x = 0 → Go p l e R s m args below meth c Z own n0 Bs En h cells slots pc1 Ls S) (K2 : ¬ x = 0 → Go p l e R s m args below meth c Z own n0 Bs En h cells slots pc2 Ls S) : Go p l e R s m args below meth c Z own n0 Bs En h cells slots pc Ls (.int x :: S) := by
  by_cases H : x = 0
  · exact Go.if_eq_t C hd H ho hp (K1 H)
  · exact Go.if_eq_f C hd H hp2 (K2 H)
theorem Go.icmp_ne_t (C : Cx p meth c bytes ml ret) {x y : Int32} {o : Int} (hd : decode bytes pc = .ok (.if_icmp .ne o, 3)) (H : ¬ x = y) (ho : 0 ≤ (pc : Int) + o) (hp : ((pc : Int) + o).toNat = pc') (K : Go p l e R s m args below meth c Z own n0 Bs En h cells slots pc' Ls S) : Go p l e R s m args below meth c Z own n0 Bs En h cells slots pc Ls (.int y :: .int x :: S) := Go.st (fun T X t q => XS.icmpYes X C.1 rfl rfl (hb C.2.1 hd) rfl ((feq H).2) ho hp q) K
theorem Go.icmp_ne_f (C : Cx p meth c bytes ml ret) {x y : Int32} {o : Int} (hd : decode bytes pc = .ok (.if_icmp .ne o, 3)) (H : x = y) (hp : pc + 3 = pc') (K : Go p l e R s m args below meth c Z own n0 Bs En h cells slots pc' Ls S) : Go p l e R s m args below meth c Z own n0 Bs En h cells slots pc Ls (.int y :: .int x :: S) := by
  subst hp; exact Go.st (fun T X t q => XS.icmpNo X C.1 rfl (hb C.2.1 hd) rfl ((teq H).2) q) K
theorem Go.icmp_ne (C : Cx p meth c bytes ml ret) {pc1 pc2 : Nat} {x y : Int32} {o : Int} (hd : decode bytes pc = .ok (.if_icmp .ne o, 3)) (ho : 0 ≤ (pc : Int) + o) (hp : ((pc : Int) + o).toNat = pc1) (hp2 : pc + 3 = pc2) (K1 : ¬ x = y → Go p l e R s m args below meth c Z own n0 Bs En h cells slots pc1 Ls S) (K2 : x = y → Go p l e R s m args below meth c Z own n0 Bs En h cells slots pc2 Ls S) : Go p l e R s m args below meth c Z own n0 Bs En h cells slots pc Ls (.int y :: .int x :: S) := by
  by_cases H : x = y
  · exact Go.icmp_ne_f C hd H hp2 (K2 H)
  · exact Go.icmp_ne_t C hd H ho hp (K1 H)
theorem Go.if_ne_t (C : Cx p meth c bytes ml ret) {x : Int32} {o : Int} (hd : decode bytes pc = .ok (.ifCond .ne o, 3)) (H : ¬ x = 0) (ho : 0 ≤ (pc : Int) + o) (hp : ((pc : Int) + o).toNat = pc') (K : Go p l e R s m args below meth c Z own n0 Bs En h cells slots pc' Ls S) : Go p l e R s m args below meth c Z own n0 Bs En h cells slots pc Ls (.int x :: S) := Go.st (fun T X t q => XS.ifYes X C.1 rfl rfl (hb C.2.1 hd) rfl ((if0 _ _).trans ((feq H).2)) ho hp q) K
theorem Go.if_ne_f (C : Cx p meth c bytes ml ret) {x : Int32} {o : Int} (hd : decode bytes pc = .ok (.ifCond .ne o, 3)) (H : x = 0) (hp : pc + 3 = pc') (K : Go p l e R s m args below meth c Z own n0 Bs En h cells slots pc' Ls S) : Go p l e R s m args below meth c Z own n0 Bs En h cells slots pc Ls (.int x :: S) := by
  subst hp; exact Go.st (fun T X t q => XS.ifNo X C.1 rfl (hb C.2.1 hd) rfl ((if0 _ _).trans ((teq H).2)) q) K
theorem Go.if_ne (C : Cx p meth c bytes ml ret) {pc1 pc2 : Nat} {x : Int32} {o : Int} (hd : decode bytes pc = .ok (.ifCond .ne o, 3)) (ho : 0 ≤ (pc : Int) + o) (hp : ((pc : Int) + o).toNat = pc1) (hp2 : pc + 3 = pc2) (K1 : ¬ x = 0 → Go p l e R s m args below meth c Z own n0 Bs En h cells slots pc1 Ls S) (K2 : x = 0 → Go p l e R s m args below meth c Z own n0 Bs En h cells slots pc2 Ls S) : Go p l e R s m args below meth c Z own n0 Bs En h cells slots pc Ls (.int x :: S) := by
  by_cases H : x = 0
  · exact Go.if_ne_f C hd H hp2 (K2 H)
  · exact Go.if_ne_t C hd H ho hp (K1 H)
theorem Go.icmp_lt_t (C : Cx p meth c bytes ml ret) {x y : Int32} {o : Int} (hd : decode bytes pc = .ok (.if_icmp .lt o, 3)) (H : x < y) (ho : 0 ≤ (pc : Int) + o) (hp : ((pc : Int) + o).toNat = pc') (K : Go p l e R s m args below meth c Z own n0 Bs En h cells slots pc' Ls S) : Go p l e R s m args below meth c Z own n0 Bs En h cells slots pc Ls (.int y :: .int x :: S) := Go.st (fun T X t q => XS.icmpYes X C.1 rfl rfl (hb C.2.1 hd) rfl ((tlt H).1) ho hp q) K
theorem Go.icmp_lt_f (C : Cx p meth c bytes ml ret) {x y : Int32} {o : Int} (hd : decode bytes pc = .ok (.if_icmp .lt o, 3)) (H : ¬ x < y) (hp : pc + 3 = pc') (K : Go p l e R s m args below meth c Z own n0 Bs En h cells slots pc' Ls S) : Go p l e R s m args below meth c Z own n0 Bs En h cells slots pc Ls (.int y :: .int x :: S) := by
  subst hp; exact Go.st (fun T X t q => XS.icmpNo X C.1 rfl (hb C.2.1 hd) rfl ((flt H).1) q) K
theorem Go.icmp_lt (C : Cx p meth c bytes ml ret) {pc1 pc2 : Nat} {x y : Int32} {o : Int} (hd : decode bytes pc = .ok (.if_icmp .lt o, 3)) (ho : 0 ≤ (pc : Int) + o) (hp : ((pc : Int) + o).toNat = pc1) (hp2 : pc + 3 = pc2) (K1 : x < y → Go p l e R s m args below meth c Z own n0 Bs En h cells slots pc1 Ls S) (K2 : ¬ x < y → Go p l e R s m args below meth c Z own n0 Bs En h cells slots pc2 Ls S) : Go p l e R s m args below meth c Z own n0 Bs En h cells slots pc Ls (.int y :: .int x :: S) := by
  by_cases H : x < y
  · exact Go.icmp_lt_t C hd H ho hp (K1 H)
  · exact Go.icmp_lt_f C hd H hp2 (K2 H)
theorem Go.if_lt_t (C : Cx p meth c bytes ml ret) {x : Int32} {o : Int} (hd : decode bytes pc = .ok (.ifCond .lt o, 3)) (H : x < 0) (ho : 0 ≤ (pc : Int) + o) (hp : ((pc : Int) + o).toNat = pc') (K : Go p l e R s m args below meth c Z own n0 Bs En h cells slots pc' Ls S) : Go p l e R s m args below meth c Z own n0 Bs En h cells slots pc Ls (.int x :: S) := Go.st (fun T X t q => XS.ifYes X C.1 rfl rfl (hb C.2.1 hd) rfl ((if0 _ _).trans ((tlt H).1)) ho hp q) K
theorem Go.if_lt_f (C : Cx p meth c bytes ml ret) {x : Int32} {o : Int} (hd : decode bytes pc = .ok (.ifCond .lt o, 3)) (H : ¬ x < 0) (hp : pc + 3 = pc') (K : Go p l e R s m args below meth c Z own n0 Bs En h cells slots pc' Ls S) : Go p l e R s m args below meth c Z own n0 Bs En h cells slots pc Ls (.int x :: S) := by
  subst hp; exact Go.st (fun T X t q => XS.ifNo X C.1 rfl (hb C.2.1 hd) rfl ((if0 _ _).trans ((flt H).1)) q) K
theorem Go.if_lt (C : Cx p meth c bytes ml ret) {pc1 pc2 : Nat} {x : Int32} {o : Int} (hd : decode bytes pc = .ok (.ifCond .lt o, 3)) (ho : 0 ≤ (pc : Int) + o) (hp : ((pc : Int) + o).toNat = pc1) (hp2 : pc + 3 = pc2) (K1 : x < 0 → Go p l e R s m args below meth c Z own n0 Bs En h cells slots pc1 Ls S) (K2 : ¬ x < 0 → Go p l e R s m args below meth c Z own n0 Bs En h cells slots pc2 Ls S) : Go p l e R s m args below meth c Z own n0 Bs En h cells slots pc Ls (.int x :: S) := by
  by_cases H : x < 0
  · exact Go.if_lt_t C hd H ho hp (K1 H)
  · exact Go.if_lt_f C hd H hp2 (K2 H)
theorem Go.icmp_ge_t (C : Cx p meth c bytes ml ret) {x y : Int32} {o : Int} (hd : decode bytes pc = .ok (.if_icmp .ge o, 3)) (H : ¬ x < y) (ho : 0 ≤ (pc : Int) + o) (hp : ((pc : Int) + o).toNat = pc') (K : Go p l e R s m args below meth c Z own n0 Bs En h cells slots pc' Ls S) : Go p l e R s m args below meth c Z own n0 Bs En h cells slots pc Ls (.int y :: .int x :: S) := Go.st (fun T X t q => XS.icmpYes X C.1 rfl rfl (hb C.2.1 hd) rfl ((flt H).2.1) ho hp q) K
theorem Go.icmp_ge_f (C : Cx p meth c bytes ml ret) {x y : Int32} {o : Int} (hd : decode bytes pc = .ok (.if_icmp .ge o, 3)) (H : x < y) (hp : pc + 3 = pc') (K : Go p l e R s m args below meth c Z own n0 Bs En h cells slots pc' Ls S) : Go p l e R s m args below meth c Z own n0 Bs En h cells slots pc Ls (.int y :: .int x :: S) := by
  subst hp; exact Go.st (fun T X t q => XS.icmpNo X C.1 rfl (hb C.2.1 hd) rfl ((tlt H).2.1) q) K
theorem Go.icmp_ge (C : Cx p meth c bytes ml ret) {pc1 pc2 : Nat} {x y : Int32} {o : Int} (hd : decode bytes pc = .ok (.if_icmp .ge o, 3)) (ho : 0 ≤ (pc : Int) + o) (hp : ((pc : Int) + o).toNat = pc1) (hp2 : pc + 3 = pc2) (K1 : ¬ x < y → Go p l e R s m args below meth c Z own n0 Bs En h cells slots pc1 Ls S) (K2 : x < y → Go p l e R s m args below meth c Z own n0 Bs En h cells slots pc2 Ls S) : Go p l e R s m args below meth c Z own n0 Bs En h cells slots pc Ls (.int y :: .int x :: S) := by
  by_cases H : x < y
  · exact Go.icmp_ge_f C hd H hp2 (K2 H)
  · exact Go.icmp_ge_t C hd H ho hp (K1 H)
theorem Go.if_ge_t (C : Cx p meth c bytes ml ret) {x : Int32} {o : Int} (hd : decode bytes pc = .ok (.ifCond .ge o, 3)) (H : ¬ x < 0) (ho : 0 ≤ (pc : Int) + o) (hp : ((pc : Int) + o).toNat = pc') (K : Go p l e R s m args below meth c Z own n0 Bs En h cells slots pc' Ls S) : Go p l e R s m args below meth c Z own n0 Bs En h cells slots pc Ls (.int x :: S) := Go.st (fun T X t q => XS.ifYes X C.1 rfl rfl (hb C.2.1 hd) rfl ((if0 _ _).trans ((flt H).2.1)) ho hp q) K
theorem Go.if_ge_f (C : Cx p meth c bytes ml ret) {x : Int32} {o : Int} (hd : decode bytes pc = .ok (.ifCond .ge o, 3)) (H : x < 0) (hp : pc + 3 = pc') (K : Go p l e R s m args below meth c Z own n0 Bs En h cells slots pc' Ls S) : Go p l e R s m args below meth c Z own n0 Bs En h cells slots pc Ls (.int x :: S) := by
  subst hp; exact Go.st (fun T X t q => XS.ifNo X C.1 rfl (hb C.2.1 hd) rfl ((if0 _ _).trans ((tlt H).2.1)) q) K
theorem Go.if_ge (C : Cx p meth c bytes ml ret) {pc1 pc2 : Nat} {x : Int32} {o : Int} (hd : decode bytes pc = .ok (.ifCond .ge o, 3)) (ho : 0 ≤ (pc : Int) + o) (hp : ((pc : Int) + o).toNat = pc1) (hp2 : pc + 3 = pc2) (K1 : ¬ x < 0 → Go p l e R s m args below meth c Z own n0 Bs En h cells slots pc1 Ls S) (K2 : x < 0 → Go p l e R s m args below meth c Z own n0 Bs En h cells slots pc2 Ls S) : Go p l e R s m args below meth c Z own n0 Bs En h cells slots pc Ls (.int x :: S) := by
  by_cases H : x < 0
  · exact Go.if_ge_f C hd H hp2 (K2 H)
  · exact Go.if_ge_t C hd H ho hp (K1 H)
theorem Go.icmp_gt_t (C : Cx p meth c bytes ml ret) {x y : Int32} {o : Int} (hd : decode bytes pc = .ok (.if_icmp .gt o, 3)) (H : y < x) (ho : 0 ≤ (pc : Int) + o) (hp : ((pc : Int) + o).toNat = pc') (K : Go p l e R s m args below meth c Z own n0 Bs En h cells slots pc' Ls S) : Go p l e R s m args below meth c Z own n0 Bs En h cells slots pc Ls (.int y :: .int x :: S) := Go.st (fun T X t q => XS.icmpYes X C.1 rfl rfl (hb C.2.1 hd) rfl ((tlt H).2.2.1) ho hp q) K
theorem Go.icmp_gt_f (C : Cx p meth c bytes ml ret) {x y : Int32} {o : Int} (hd : decode bytes pc = .ok (.if_icmp .gt o, 3)) (H : ¬ y < x) (hp : pc + 3 = pc') (K : Go p l e R s m args below meth c Z own n0 Bs En h cells slots pc' Ls S) : Go p l e R s m args below meth c Z own n0 Bs En h cells slots pc Ls (.int y :: .int x :: S) := by
  subst hp; exact Go.st (fun T X t q => XS.icmpNo X C.1 rfl (hb C.2.1 hd) rfl ((flt H).2.2.1) q) K
theorem Go.icmp_gt (C : Cx p meth c bytes ml ret) {pc1 pc2 : Nat} {x y : Int32} {o : Int} (hd : decode bytes pc = .ok (.if_icmp .gt o, 3)) (ho : 0 ≤ (pc : Int) + o) (hp : ((pc : Int) + o).toNat = pc1) (hp2 : pc + 3 = pc2) (K1 : y < x → Go p l e R s m args below meth c Z own n0 Bs En h cells slots pc1 Ls S) (K2 : ¬ y < x → Go p l e R s m args below meth c Z own n0 Bs En h cells slots pc2 Ls S) : Go p l e R s m args below meth c Z own n0 Bs En h cells slots pc Ls (.int y :: .int x :: S) := by
  by_cases H : y < x
  · exact Go.icmp_gt_t C hd H ho hp (K1 H)
  · exact Go.icmp_gt_f C hd H hp2 (K2 H)
theorem Go.if_gt_t (C : Cx p meth c bytes ml ret) {x : Int32} {o : Int} (hd : decode bytes pc = .ok (.ifCond .gt o, 3)) (H : 0 < x) (ho : 0 ≤ (pc : Int) + o) (hp : ((pc : Int) + o).toNat = pc') (K : Go p l e R s m args below meth c Z own n0 Bs En h cells slots pc' Ls S) : Go p l e R s m args below meth c Z own n0 Bs En h cells slots pc Ls (.int x :: S) := Go.st (fun T X t q => XS.ifYes X C.1 rfl rfl (hb C.2.1 hd) rfl ((if0 _ _).trans ((tlt H).2.2.1)) ho hp q) K
theorem Go.if_gt_f (C : Cx p meth c bytes ml ret) {x : Int32} {o : Int} (hd : decode bytes pc = .ok (.ifCond .gt o, 3)) (H : ¬ 0 < x) (hp : pc + 3 = pc') (K : Go p l e R s m args below meth c Z own n0 Bs En h cells slots pc' Ls S) : Go p l e R s m args below meth c Z own n0 Bs En h cells slots pc Ls (.int x :: S) := by
  subst hp; exact Go.st (fun T X t q => XS.ifNo X C.1 rfl (hb C.2.1 hd) rfl ((if0 _ _).trans ((flt H).2.2.1)) q) K
theorem Go.if_gt (C : Cx p meth c bytes ml ret) {pc1 pc2 : Nat} {x : Int32} {o : Int} (hd : decode bytes pc = .ok (.ifCond .gt o, 3)) (ho : 0 ≤ (pc : Int) + o) (hp : ((pc : Int) + o).toNat = pc1) (hp2 : pc + 3 = pc2) (K1 : 0 < x → Go p l e R s m args below meth c Z own n0 Bs En h cells slots pc1 Ls S) (K2 : ¬ 0 < x → Go p l e R s m args below meth c Z own n0 Bs En h cells slots pc2 Ls S) : Go p l e R s m args below meth c Z own n0 Bs En h cells slots pc Ls (.int x :: S) := by
  by_cases H : 0 < x
  · exact Go.if_gt_t C hd H ho hp (K1 H)
  · exact Go.if_gt_f C hd H hp2 (K2 H)
theorem Go.icmp_le_t (C : Cx p meth c bytes ml ret) {x y : Int32} {o : Int} (hd : decode bytes pc = .ok (.if_icmp .le o, 3)) (H : ¬ y < x) (ho : 0 ≤ (pc : Int) + o) (hp : ((pc : Int) + o).toNat = pc') (K : Go p l e R s m args below meth c Z own n0 Bs En h cells slots pc' Ls S) : Go p l e R s m args below meth c Z own n0 Bs En h cells slots pc Ls (.int y :: .int x :: S) := Go.st (fun T X t q => XS.icmpYes X C.1 rfl rfl (hb C.2.1 hd) rfl ((flt H).2.2.2) ho hp q) K
theorem Go.icmp_le_f (C : Cx p meth c bytes ml ret) {x y : Int32} {o : Int} (hd : decode bytes pc = .ok (.if_icmp .le o, 3)) (H : y < x) (hp : pc + 3 = pc') (K : Go p l e R s m args below meth c Z own n0 Bs En h cells slots pc' Ls S) : Go p l e R s m args below meth c Z own n0 Bs En h cells slots pc Ls (.int y :: .int x :: S) := by
  subst hp; exact Go.st (fun T X t q => XS.icmpNo X C.1 rfl (hb C.2.1 hd) rfl ((tlt H).2.2.2) q) K
theorem Go.icmp_le (C : Cx p meth c bytes ml ret) {pc1 pc2 : Nat} {x y : Int32} {o : Int} (hd : decode bytes pc = .ok (.if_icmp .le o, 3)) (ho : 0 ≤ (pc : Int) + o) (hp : ((pc : Int) + o).toNat = pc1) (hp2 : pc + 3 = pc2) (K1 : ¬ y < x → Go p l e R s m args below meth c Z own n0 Bs En h cells slots pc1 Ls S) (K2 : y < x → Go p l e R s m args below meth c Z own n0 Bs En h cells slots pc2 Ls S) : Go p l e R s m args below meth c Z own n0 Bs En h cells slots pc Ls (.int y :: .int x :: S) := by
  by_cases H : y < x
  · exact Go.icmp_le_f C hd H hp2 (K2 H)
  · exact Go.icmp_le_t C hd H ho hp (K1 H)
theorem Go.if_le_t (C : Cx p meth c bytes ml ret) {x : Int32} {o : Int} (hd : decode bytes pc = .ok (.ifCond .le o, 3)) (H : ¬ 0 < x) (ho : 0 ≤ (pc : Int) + o) (hp : ((pc : Int) + o).toNat = pc') (K : Go p l e R s m args below meth c Z own n0 Bs En h cells slots pc' Ls S) : Go p l e R s m args below meth c Z own n0 Bs En h cells slots pc Ls (.int x :: S) := Go.st (fun T X t q => XS.ifYes X C.1 rfl rfl (hb C.2.1 hd) rfl ((if0 _ _).trans ((flt H).2.2.2)) ho hp q) K
theorem Go.if_le_f (C : Cx p meth c bytes ml ret) {x : Int32} {o : Int} (hd : decode bytes pc = .ok (.ifCond .le o, 3)) (H : 0 < x) (hp : pc + 3 = pc') (K : Go p l e R s m args below meth c Z own n0 Bs En h cells slots pc' Ls S) : Go p l e R s m args below meth c Z own n0 Bs En h cells slots pc Ls (.int x :: S) := by
  subst hp; exact Go.st (fun T X t q => XS.ifNo X C.1 rfl (hb C.2.1 hd) rfl ((if0 _ _).trans ((tlt H).2.2.2)) q) K
theorem Go.if_le (C : Cx p meth c bytes ml ret) {pc1 pc2 : Nat} {x : Int32} {o : Int} (hd : decode bytes pc = .ok (.ifCond .le o, 3)) (ho : 0 ≤ (pc : Int) + o) (hp : ((pc : Int) + o).toNat = pc1) (hp2 : pc + 3 = pc2) (K1 : ¬ 0 < x → Go p l e R s m args below meth c Z own n0 Bs En h cells slots pc1 Ls S) (K2 : 0 < x → Go p l e R s m args below meth c Z own n0 Bs En h cells slots pc2 Ls S) : Go p l e R s m args below meth c Z own n0 Bs En h cells slots pc Ls (.int x :: S) := by
  by_cases H : 0 < x
  · exact Go.if_le_f C hd H hp2 (K2 H)
  · exact Go.if_le_t C hd H ho hp (K1 H)
theorem Go.ifnull_t (C : Cx p meth c bytes ml ret) {o : Int} (hd : decode bytes pc = .ok (.ifnull o, 3)) (ho : 0 ≤ (pc : Int) + o) (hp : ((pc : Int) + o).toNat = pc') (K : Go p l e R s m args below meth c Z own n0 Bs En h cells slots pc' Ls S) : Go p l e R s m args below meth c Z own n0 Bs En h cells slots pc Ls (.null :: S) := Go.st (fun T X t q => XS.ifnullYes X C.1 rfl rfl (hb C.2.1 hd) rfl ho hp q) K
theorem Go.ifnull_f (C : Cx p meth c bytes ml ret) {o : Int} {b : Addr} (hd : decode bytes pc = .ok (.ifnull o, 3))  (hp : pc + 3 = pc') (K : Go p l e R s m args below meth c Z own n0 Bs En h cells slots pc' Ls (S)) : Go p l e R s m args below meth c Z own n0 Bs En h cells slots pc Ls (.ref b :: S) := by
  subst hp; exact Go.st (fun T X t q => XS.ifnullNo X C.1 rfl (hb C.2.1 hd) rfl q) K
theorem Go.ifnonnull_t (C : Cx p meth c bytes ml ret) {o : Int} {b : Addr} (hd : decode bytes pc = .ok (.ifnonnull o, 3)) (ho : 0 ≤ (pc : Int) + o) (hp : ((pc : Int) + o).toNat = pc') (K : Go p l e R s m args below meth c Z own n0 Bs En h cells slots pc' Ls S) : Go p l e R s m args below meth c Z own n0 Bs En h cells slots pc Ls (.ref b :: S) := Go.st (fun T X t q => XS.ifnonnullYes X C.1 rfl rfl (hb C.2.1 hd) rfl ho hp q) K
theorem Go.ifnonnull_f (C : Cx p meth c bytes ml ret) {o : Int} (hd : decode bytes pc = .ok (.ifnonnull o, 3))  (hp : pc + 3 = pc') (K : Go p l e R s m args below meth c Z own n0 Bs En h cells slots pc' Ls (S)) : Go p l e R s m args below meth c Z own n0 Bs En h cells slots pc Ls (.null :: S) := by
  subst hp; exact Go.st (fun T X t q => XS.ifnonnullNo X C.1 rfl (hb C.2.1 hd) rfl q) K
theorem Go.acmp_eq_t (C : Cx p meth c bytes ml ret) {o : Int} {x y : Value} (hd : decode bytes pc = .ok (.if_acmp .eq o, 3)) (h1 : x.isRef = true) (h2 : y.isRef = true) (H : x = y) (ho : 0 ≤ (pc : Int) + o) (hp : ((pc : Int) + o).toNat = pc') (K : Go p l e R s m args below meth c Z own n0 Bs En h cells slots pc' Ls S) : Go p l e R s m args below meth c Z own n0 Bs En h cells slots pc Ls (y :: x :: S) := fun vm0 T locs q1 q2 q3 X q4 q5 => by
  obtain ⟨s₂, o', L, k1, k2⟩ := K vm0 T locs q1 q2 q3 X q4 q5
  exact ⟨s₂, o', L, acmp X C.1 rfl h1 h2 rfl (hb C.2.1 hd) rfl (decide_eq_true H) ho (by rw [← hp]; rfl) k1, k2⟩
theorem Go.acmp_eq_f (C : Cx p meth c bytes ml ret) {o : Int} {x y : Value} (hd : decode bytes pc = .ok (.if_acmp .eq o, 3)) (h1 : x.isRef = true) (h2 : y.isRef = true) (H : ¬ x = y) (ho : 0 ≤ (pc : Int) + o) (hp : pc + 3 = pc') (K : Go p l e R s m args below meth c Z own n0 Bs En h cells slots pc' Ls S) : Go p l e R s m args below meth c Z own n0 Bs En h cells slots pc Ls (y :: x :: S) := fun vm0 T locs q1 q2 q3 X q4 q5 => by
  obtain ⟨s₂, o', L, k1, k2⟩ := K vm0 T locs q1 q2 q3 X q4 q5
  exact ⟨s₂, o', L, acmp X C.1 rfl h1 h2 rfl (hb C.2.1 hd) rfl (decide_eq_false H) ho (by rw [← hp]; rfl) k1, k2⟩
theorem Go.acmp_ne_t (C : Cx p meth c bytes ml ret) {o : Int} {x y : Value} (hd : decode bytes pc = .ok (.if_acmp .ne o, 3)) (h1 : x.isRef = true) (h2 : y.isRef = true) (H : ¬ x = y) (ho : 0 ≤ (pc : Int) + o) (hp : ((pc : Int) + o).toNat = pc') (K : Go p l e R s m args below meth c Z own n0 Bs En h cells slots pc' Ls S) : Go p l e R s m args below meth c Z own n0 Bs En h cells slots pc Ls (y :: x :: S) := fun vm0 T locs q1 q2 q3 X q4 q5 => by
  obtain ⟨s₂, o', L, k1, k2⟩ := K vm0 T locs q1 q2 q3 X q4 q5
  exact ⟨s₂, o', L, acmp X C.1 rfl h1 h2 rfl (hb C.2.1 hd) rfl (decide_eq_false H) ho (by rw [← hp]; rfl) k1, k2⟩
theorem Go.acmp_ne_f (C : Cx p meth c bytes ml ret) {o : Int} {x y : Value} (hd : decode bytes pc = .ok (.if_acmp .ne o, 3)) (h1 : x.isRef = true) (h2 : y.isRef = true) (H : x = y) (ho : 0 ≤ (pc : Int) + o) (hp : pc + 3 = pc') (K : Go p l e R s m args below meth c Z own n0 Bs En h cells slots pc' Ls S) : Go p l e R s m args below meth c Z own n0 Bs En h cells slots pc Ls (y :: x :: S) := fun vm0 T locs q1 q2 q3 X q4 q5 => by
  obtain ⟨s₂, o', L, k1, k2⟩ := K vm0 T locs q1 q2 q3 X q4 q5
  exact ⟨s₂, o', L, acmp X C.1 rfl h1 h2 rfl (hb C.2.1 hd) rfl (decide_eq_true H) ho (by rw [← hp]; rfl) k1, k2⟩
theorem Go.same {Ls' : Array Slot} {S' : List Value} (f : ∀ (vm0 : Vm) (T : State) (locs : List Loc), Z.Warmed39 vm0 → vm0.findClass own = some m.cls → Stand p l e R (s.setVm vm0) m args below meth c T locs cells slots → T.heap = h → ∃ T', Stand p l e R (s.setVm vm0) m args below meth c T' locs cells slots ∧ T'.heap = h ∧ ∀ target, Steps p.tables e below (T'.setTop (mkF m pc' Ls' S')) target → Steps p.tables e below (T.setTop (mkF m pc Ls S)) target)
    (K : Go p l e R s m args below meth c Z own n0 Bs En h cells slots pc' Ls' S') : Go p l e R s m args below meth c Z own n0 Bs En h cells slots pc Ls S := fun vm0 T locs q1 q2 q3 X q4 q5 => by
  obtain ⟨T', X', e', st⟩ := f vm0 T locs q1 q2 X q5
  obtain ⟨s₂, o, L, h1, h2⟩ := K vm0 T' locs q1 q2 q3 X' q4 e'
  exact ⟨s₂, o, L, st _ h1, h2⟩
theorem Go.ldcInt (C : Cx p meth c bytes ml ret) {i : Nat} {v : Int32} (hd : decode bytes pc = .ok (.ldc i, 2)) (w : (Cond.constant own i v).before a0 Z = true) (hp : pc + 2 = pc') (K : Go p l e R s m args below meth c Z own n0 Bs En h cells slots pc' Ls (.int v :: S)) : Go p l e R s m args below meth c Z own n0 Bs En h cells slots pc Ls (S) := by
  subst hp; exact Go.same (fun vm0 T locs hZ hown X eT => by exact ⟨T, X, eT, X.ldcInt C.1 hown (mvT (s := s.setVm vm0) hZ w) (g := mkF m pc Ls (S)) rfl (hb C.2.1 hd)⟩) K
theorem Go.ldc2Long (C : Cx p meth c bytes ml ret) {i : Nat} {v : Int64} (hd : decode bytes pc = .ok (.ldc2_w i, 3)) (w : (Cond.constantLong own i v).before a0 Z = true) (hp : pc + 3 = pc') (K : Go p l e R s m args below meth c Z own n0 Bs En h cells slots pc' Ls (.long v :: S)) : Go p l e R s m args below meth c Z own n0 Bs En h cells slots pc Ls (S) := by
  subst hp; exact Go.same (fun vm0 T locs hZ hown X eT => by exact ⟨T, X, eT, X.ldc2Long C.1 hown (mvT (s := s.setVm vm0) hZ w) (g := mkF m pc Ls (S)) rfl (hb C.2.1 hd)⟩) K
theorem Go.ldc2Double (C : Cx p meth c bytes ml ret) {i : Nat} {v : UInt64} (hd : decode bytes pc = .ok (.ldc2_w i, 3)) (w : (Cond.constantDouble own i v).before a0 Z = true) (hp : pc + 3 = pc') (K : Go p l e R s m args below meth c Z own n0 Bs En h cells slots pc' Ls (.double v :: S)) : Go p l e R s m args below meth c Z own n0 Bs En h cells slots pc Ls (S) := by
  subst hp; exact Go.same (fun vm0 T locs hZ hown X eT => by exact ⟨T, X, eT, X.ldc2DoubleC C.1 hown (mvT (s := s.setVm vm0) hZ w) (g := mkF m pc Ls (S)) rfl (hb C.2.1 hd)⟩) K
theorem Go.arraylength (C : Cx p meth c bytes ml ret) {a : Addr} {cl : Cell} {ty : FieldType} {z : Int32} (hd : decode bytes pc = .ok (.arraylength, 1)) (A : Arr Z h a cl ty) (hz : cl.slots.size.toInt32 = z) (hp : pc + 1 = pc') (K : Go p l e R s m args below meth c Z own n0 Bs En h cells slots pc' Ls (.int z :: S)) : Go p l e R s m args below meth c Z own n0 Bs En h cells slots pc Ls (.ref a :: S) := by
  subst hp; exact Go.same (fun vm0 T locs hZ hown X eT => by subst hz; exact ⟨T, X, eT, fun t q => X.arraylength C.1 (by rw [eT]; exact A.1) (State.isArrayOf_alike (T := s.setVm vm0) hZ.alike A.2.1) (g := mkF m pc Ls (.ref a :: S)) rfl rfl (hb C.2.1 hd) t q⟩) K
theorem Go.iaload (C : Cx p meth c bytes ml ret) {a : Addr} {cl : Cell} {j : Int32} {v : Value} (hd : decode bytes pc = .ok (.iaload, 1)) (A : Arr Z h a cl .int) (hin : ¬ (j < 0 ∨ cl.slots.size ≤ j.toNatClampNeg)) (hv : cl.slots[j.toNatClampNeg]? = some v) (hp : pc + 1 = pc') (K : Go p l e R s m args below meth c Z own n0 Bs En h cells slots pc' Ls (v :: S)) : Go p l e R s m args below meth c Z own n0 Bs En h cells slots pc Ls (.int j :: .ref a :: S) := by
  subst hp; exact Go.same (fun vm0 T locs hZ hown X eT => by exact ⟨T, X, eT, fun t q => X.iaload C.1 (by rw [eT]; exact A.1) (State.isArrayOf_alike (T := s.setVm vm0) hZ.alike A.2.1) A.2.2 hin hv (g := mkF m pc Ls (.int j :: .ref a :: S)) rfl rfl (hb C.2.1 hd) t q⟩) K
theorem Go.laload (C : Cx p meth c bytes ml ret) {a : Addr} {cl : Cell} {j : Int32} {v : Value} (hd : decode bytes pc = .ok (.laload, 1)) (A : Arr Z h a cl .long) (hin : ¬ (j < 0 ∨ cl.slots.size ≤ j.toNatClampNeg)) (hv : cl.slots[j.toNatClampNeg]? = some v) (hp : pc + 1 = pc') (K : Go p l e R s m args below meth c Z own n0 Bs En h cells slots pc' Ls (v :: S)) : Go p l e R s m args below meth c Z own n0 Bs En h cells slots pc Ls (.int j :: .ref a :: S) := by
  subst hp; exact Go.same (fun vm0 T locs hZ hown X eT => by exact ⟨T, X, eT, fun t q => X.laload C.1 (by rw [eT]; exact A.1) (State.isArrayOf_alike (T := s.setVm vm0) hZ.alike A.2.1) A.2.2 hin hv (g := mkF m pc Ls (.int j :: .ref a :: S)) rfl rfl (hb C.2.1 hd) t q⟩) K
theorem Go.caload (C : Cx p meth c bytes ml ret) {a : Addr} {cl : Cell} {j : Int32} {v : Value} (hd : decode bytes pc = .ok (.caload, 1)) (A : Arr Z h a cl .char) (hin : ¬ (j < 0 ∨ cl.slots.size ≤ j.toNatClampNeg)) (hv : cl.slots[j.toNatClampNeg]? = some v) (hp : pc + 1 = pc') (K : Go p l e R s m args below meth c Z own n0 Bs En h cells slots pc' Ls (v :: S)) : Go p l e R s m args below meth c Z own n0 Bs En h cells slots pc Ls (.int j :: .ref a :: S) := by
  subst hp; exact Go.same (fun vm0 T locs hZ hown X eT => by exact ⟨T, X, eT, fun t q => X.caload C.1 (by rw [eT]; exact A.1) (State.isArrayOf_alike (T := s.setVm vm0) hZ.alike A.2.1) A.2.2 hin hv (g := mkF m pc Ls (.int j :: .ref a :: S)) rfl rfl (hb C.2.1 hd) t q⟩) K
theorem Go.baload (C : Cx p meth c bytes ml ret) {a : Addr} {cl : Cell} {j : Int32} {v : Value} (hd : decode bytes pc = .ok (.baload, 1)) (A : Arr Z h a cl .byte) (hin : ¬ (j < 0 ∨ cl.slots.size ≤ j.toNatClampNeg)) (hv : cl.slots[j.toNatClampNeg]? = some v) (hp : pc + 1 = pc') (K : Go p l e R s m args below meth c Z own n0 Bs En h cells slots pc' Ls (v :: S)) : Go p l e R s m args below meth c Z own n0 Bs En h cells slots pc Ls (.int j :: .ref a :: S) := by
  subst hp; exact Go.same (fun vm0 T locs hZ hown X eT => by exact ⟨T, X, eT, fun t q => X.baloadBytes C.1 (by rw [eT]; exact A.1) (State.isArrayOf_alike (T := s.setVm vm0) hZ.alike A.2.1) A.2.2 hin hv (g := mkF m pc Ls (.int j :: .ref a :: S)) rfl rfl (hb C.2.1 hd) t q⟩) K
theorem Go.daload (C : Cx p meth c bytes ml ret) {a : Addr} {cl : Cell} {j : Int32} {v : Value} (hd : decode bytes pc = .ok (.daload, 1)) (A : Arr Z h a cl .double) (hin : ¬ (j < 0 ∨ cl.slots.size ≤ j.toNatClampNeg)) (hv : cl.slots[j.toNatClampNeg]? = some v) (hp : pc + 1 = pc') (K : Go p l e R s m args below meth c Z own n0 Bs En h cells slots pc' Ls (v :: S)) : Go p l e R s m args below meth c Z own n0 Bs En h cells slots pc Ls (.int j :: .ref a :: S) := by
  subst hp; exact Go.same (fun vm0 T locs hZ hown X eT => by exact ⟨T, X, eT, fun t q => X.daload C.1 (by rw [eT]; exact A.1) (State.isArrayOf_alike (T := s.setVm vm0) hZ.alike A.2.1) A.2.2 hin hv (g := mkF m pc Ls (.int j :: .ref a :: S)) rfl rfl (hb C.2.1 hd) t q⟩) K
theorem Go.aaload (C : Cx p meth c bytes ml ret) {a : Addr} {cl : Cell} {j : Int32} {v : Value} {ty : FieldType} (hd : decode bytes pc = .ok (.aaload, 1)) (A : Arr Z h a cl ty) (hty : ty.isReference = true) (hin : ¬ (j < 0 ∨ cl.slots.size ≤ j.toNatClampNeg)) (hv : cl.slots[j.toNatClampNeg]? = some v) (hp : pc + 1 = pc') (K : Go p l e R s m args below meth c Z own n0 Bs En h cells slots pc' Ls (v :: S)) : Go p l e R s m args below meth c Z own n0 Bs En h cells slots pc Ls (.int j :: .ref a :: S) := by
  subst hp; exact Go.same (fun vm0 T locs hZ hown X eT => by exact ⟨T, X, eT, fun t q => X.aaload C.1 (by rw [eT]; exact A.1) (State.isArrayOf_alike (T := s.setVm vm0) hZ.alike A.2.1) hty A.2.2 hin hv (g := mkF m pc Ls (.int j :: .ref a :: S)) rfl rfl (hb C.2.1 hd) t q⟩) K
theorem Go.castNull (C : Cx p meth c bytes ml ret) {i : Nat} (hd : decode bytes pc = .ok (.checkcast i, 3))  (hp : pc + 3 = pc') (K : Go p l e R s m args below meth c Z own n0 Bs En h cells slots pc' Ls (.null :: S)) : Go p l e R s m args below meth c Z own n0 Bs En h cells slots pc Ls (.null :: S) := by
  subst hp; exact Go.same (fun vm0 T locs hZ hown X eT => by exact ⟨T, X, eT, X.checkcastNull C.1 (g := mkF m pc Ls (.null :: S)) rfl rfl (hb C.2.1 hd)⟩) K
theorem Go.instNull (C : Cx p meth c bytes ml ret) {i : Nat} (hd : decode bytes pc = .ok (.instanceof i, 3))  (hp : pc + 3 = pc') (K : Go p l e R s m args below meth c Z own n0 Bs En h cells slots pc' Ls (.int 0 :: S)) : Go p l e R s m args below meth c Z own n0 Bs En h cells slots pc Ls (.null :: S) := by
  subst hp; exact Go.same (fun vm0 T locs hZ hown X eT => by exact ⟨T, X, eT, X.instanceofNull C.1 (g := mkF m pc Ls (.null :: S)) rfl rfl (hb C.2.1 hd)⟩) K
theorem Go.getF (C : Cx p meth c bytes ml ret) {i : Nat} {a : Addr} {R0 O n d : String} {v : Value} (hd : decode bytes pc = .ok (.getfield i, 3)) (w : (Cond.fieldLink own i R0 n d).before a0 Z = true) (via : Via Z R0 O n d) (F : Fld Z h a O n d v) (hp : pc + 3 = pc') (K : Go p l e R s m args below meth c Z own n0 Bs En h cells slots pc' Ls (v :: S)) : Go p l e R s m args below meth c Z own n0 Bs En h cells slots pc Ls (.ref a :: S) := by
  subst hp; exact Go.same (fun vm0 T locs hZ hown X eT => by exact getF (host := "") X C.1 hZ hown (Or.inl w) via eT F (g := mkF m pc Ls (.ref a :: S)) rfl rfl (hb C.2.1 hd)) K
theorem Go.getS (C : Cx p meth c bytes ml ret) {i : Nat} {R0 O n d : String} {v : Value} (hd : decode bytes pc = .ok (.getstatic i, 3)) (w : (Cond.fieldLink own i R0 n d).before a0 Z = true) (via : Via Z R0 O n d) (F : Sta Z h O n d v) (hp : pc + 3 = pc') (K : Go p l e R s m args below meth c Z own n0 Bs En h cells slots pc' Ls (v :: S)) : Go p l e R s m args below meth c Z own n0 Bs En h cells slots pc Ls (S) := by
  subst hp; exact Go.same (fun vm0 T locs hZ hown X eT => by exact getS2 (host := "") X C.1 hZ hown (Or.inl w) via eT F (g := mkF m pc Ls (S)) rfl (hb C.2.1 hd)) K
theorem Go.castY (C : Cx p meth c bytes ml ret) {i : Nat} {a : Addr} {K0 : String} (hd : decode bytes pc = .ok (.checkcast i, 3)) (w : (Cond.classLink own i K0).before a0 Z = true) (F : Ins Z h a K0 true) (hp : pc + 3 = pc') (K : Go p l e R s m args below meth c Z own n0 Bs En h cells slots pc' Ls (.ref a :: S)) : Go p l e R s m args below meth c Z own n0 Bs En h cells slots pc Ls (.ref a :: S) := by
  subst hp; exact Go.same (fun vm0 T locs hZ hown X eT => by exact castY X C.1 hZ hown w eT F (g := mkF m pc Ls (.ref a :: S)) rfl rfl (hb C.2.1 hd)) K
theorem Go.instY (C : Cx p meth c bytes ml ret) {i : Nat} {a : Addr} {K0 : String} (hd : decode bytes pc = .ok (.instanceof i, 3)) (w : (Cond.classLink own i K0).before a0 Z = true) (F : Ins Z h a K0 true) (hp : pc + 3 = pc') (K : Go p l e R s m args below meth c Z own n0 Bs En h cells slots pc' Ls (.int 1 :: S)) : Go p l e R s m args below meth c Z own n0 Bs En h cells slots pc Ls (.ref a :: S) := by
  subst hp; exact Go.same (fun vm0 T locs hZ hown X eT => by exact instY X C.1 hZ hown w eT F (g := mkF m pc Ls (.ref a :: S)) rfl rfl (hb C.2.1 hd)) K
end Rules
end Jvm.Own
namespace Jvm.Own
open Jvm Jvm.ClassFile Sem Op Lib Jvm.Free Jvm.Stand Jvm.LawKit Jvm.RoadKit Bundle
section Heaps
variable {p : Program} {l : Launch} {e : Env} {R : Room} {s : State} {m : MethodId} {args : Array Value} {below : List Frame} {meth : Method} {c : Code} {Z : State} {own : String} {n0 : Nat} {Bs : Vm → Heap → Prop} {En : Outcome → State → List Loc → Prop} {h : Heap} {cells slots pc pc' : Nat} {Ls : Array Slot} {S : List Value} {bytes : ByteArray} {ml : Nat} {ret : Option FieldType} {a0 : Array Value}
/-- Bs goes along with a heap that only grew -/
def BsE (Bs : Vm → Heap → Prop) : Prop := ∀ vm h h', Ext h h' → Bs vm h → Bs vm h'
/-- the base of a walk that interns nothing -/
def Bn (s : State) : Vm → Heap → Prop := fun vm _ => vm = s.vm
theorem bnE : ∀ vm h', Ext h h' → h.size < h'.size → Bn s vm h → Bn s vm h' := fun _ _ _ _ q => q
theorem Go.newO (C : Cx p meth c bytes ml ret) {Bs' : Vm → Heap → Prop} (hE : ∀ vm h', Ext h h' → h.size < h'.size → Bs vm h → Bs' vm h') {i n : Nat} {C0 : String} (hd : decode bytes pc = .ok (.new i, 3)) (w1 : (Cond.classLink own i C0).before a0 Z = true) (w2 : (Cond.instantiable C0 n).before a0 Z = true) (w3 : (Cond.initialized C0).before a0 Z = true) (hc : cells + 1 ≤ R.cells) (hl : slots + n ≤ R.slots) (hp : pc + 3 = pc')
    (K : ∀ h', Ext h h' → Exa Z h' h.size C0 → (∀ {O nm d : String} {ty : FieldType}, Laid Z a0 C0 O nm d → parseFieldDescriptor d = some ty → Fld Z h' h.size O nm d (defaultValue ty)) → Unt h' h.size → Go p l e R s m args below meth c Z own n0 Bs' En h' (cells + 1) (slots + n) pc' Ls (.ref h.size :: S)) :
    Go p l e R s m args below meth c Z own n0 Bs En h cells slots pc Ls S := fun vm0 T locs hZ hown hB X hF eT => by
  subst hp
  obtain ⟨T', h', X', e', E, A, D, N, st⟩ := Jvm.RoadKit.newO X C.1 hZ hown w1 w2 w3 eT (g := mkF m pc Ls S) rfl (hb C.2.1 hd) hc hl
  obtain ⟨s₂, o, L, k1, k2⟩ := K h' E A D N vm0 T' locs hZ hown (hE _ _ E A.lt hB) X' hF e'
  exact ⟨s₂, o, L, st _ k1, k2⟩
theorem Go.newP (C : Cx p meth c bytes ml ret) {Bs' : Vm → Heap → Prop} (hE : ∀ vm h', Ext h h' → h.size < h'.size → Bs vm h → Bs' vm h') {aty : ArrayType} {n : Int32} (hd : decode bytes pc = .ok (.newarray aty, 2)) (w : (Cond.arrayClass (newarray.typeOf aty)).before a0 Z = true) (hn : ¬ n < 0) {cap : Nat} (hcap : n.toNatClampNeg ≤ cap) (hb8 : cap * 8 ≤ 536870912) (hc : cells + 1 ≤ R.cells) (hl : slots + cap ≤ R.slots) (hp : pc + 2 = pc')
    (K : ∀ h' cA, Ext h h' → Arr Z h' h.size (newA cA (newarray.typeOf aty) n) (newarray.typeOf aty) → Go p l e R s m args below meth c Z own n0 Bs' En h' (cells + 1) (slots + cap) pc' Ls (.ref h.size :: S)) :
    Go p l e R s m args below meth c Z own n0 Bs En h cells slots pc Ls (.int n :: S) := fun vm0 T locs hZ hown hB X hF eT => by
  subst hp
  obtain ⟨T', h', cA, X', e', E, A, st⟩ := Jvm.RoadKit.newP X C.1 hZ w eT (g := mkF m pc Ls (.int n :: S)) rfl (hb C.2.1 hd) rfl hn hcap hb8 hc hl
  obtain ⟨s₂, o, L, k1, k2⟩ := K h' cA E A vm0 T' locs hZ hown (hE _ _ E A.lt hB) X' hF e'
  exact ⟨s₂, o, L, st _ k1, k2⟩
theorem Go.castore (C : Cx p meth c bytes ml ret) {a : Addr} {cl : Cell} {j x : Int32} (hd : decode bytes pc = .ok (.castore, 1)) (A : Arr Z h a cl .char) (hj : ¬ (j < 0 ∨ cl.slots.size ≤ j.toNatClampNeg)) (hn : n0 ≤ a) (hB : ∀ vm h', Wr h h' a j.toNatClampNeg (.int (nar .char x)) → Bs vm h → Bs vm h') (hp : pc + 1 = pc')
    (K : ∀ h', Wr h h' a j.toNatClampNeg (.int (nar .char x)) → Go p l e R s m args below meth c Z own n0 Bs En h' cells slots pc' Ls S) :
    Go p l e R s m args below meth c Z own n0 Bs En h cells slots pc Ls (.int x :: .int j :: .ref a :: S) := fun vm0 T locs hZ hown hBs X hF eT => by
  subst hp
  obtain ⟨T', h', X', e', W, st⟩ := stC X C.1 hZ eT A hj (g := mkF m pc Ls (.int x :: .int j :: .ref a :: S)) rfl rfl (hb C.2.1 hd)
  obtain ⟨s₂, o, L, k1, k2⟩ := K h' W vm0 T' _ hZ hown (hB _ _ W hBs) X' (Fr.snoc X' hF hn) e'
  exact ⟨s₂, o, L, st _ k1, k2⟩
theorem Go.bastore (C : Cx p meth c bytes ml ret) {a : Addr} {cl : Cell} {j x : Int32} (hd : decode bytes pc = .ok (.bastore, 1)) (A : Arr Z h a cl .byte) (hj : ¬ (j < 0 ∨ cl.slots.size ≤ j.toNatClampNeg)) (hn : n0 ≤ a) (hB : ∀ vm h', Wr h h' a j.toNatClampNeg (.int (nar .byte x)) → Bs vm h → Bs vm h') (hp : pc + 1 = pc')
    (K : ∀ h', Wr h h' a j.toNatClampNeg (.int (nar .byte x)) → Go p l e R s m args below meth c Z own n0 Bs En h' cells slots pc' Ls S) :
    Go p l e R s m args below meth c Z own n0 Bs En h cells slots pc Ls (.int x :: .int j :: .ref a :: S) := fun vm0 T locs hZ hown hBs X hF eT => by
  subst hp
  obtain ⟨T', h', X', e', W, st⟩ := stB X C.1 hZ eT A hj (g := mkF m pc Ls (.int x :: .int j :: .ref a :: S)) rfl rfl (hb C.2.1 hd)
  obtain ⟨s₂, o, L, k1, k2⟩ := K h' W vm0 T' _ hZ hown (hB _ _ W hBs) X' (Fr.snoc X' hF hn) e'
  exact ⟨s₂, o, L, st _ k1, k2⟩
theorem Go.putF (C : Cx p meth c bytes ml ret) {i kk : Nat} {R0 O n d C0 : String} {ty : FieldType} {a : Addr} {v old : Value} (hd : decode bytes pc = .ok (.putfield i, 3)) (w : (Cond.fieldLink own i R0 n d).before a0 Z = true) (via : Via Z R0 O n d) (F : Fld Z h a O n d old) (E : Exa Z h a C0)
    (L : (Cond.lays C0 O n d).before a0 Z = true ∨ ((Cond.laysFinal C0 O n d).before a0 Z = true ∧ own = O ∧ meth.name = "<init>")) (wi : (Cond.instantiable C0 kk).before a0 Z = true) (hty : parseFieldDescriptor d = some ty) (hnv : narrow ty v = v) (hf : fits ty v = true) (hn : n0 ≤ a) (hB : ∀ vm h', Wr h h' a (Jvm.RoadKit.slotOf Z O n d) v → Bs vm h → Bs vm h') (hp : pc + 3 = pc')
    (K : ∀ h', Wr h h' a (Jvm.RoadKit.slotOf Z O n d) v → Go p l e R s m args below meth c Z own n0 Bs En h' cells slots pc' Ls S) :
    Go p l e R s m args below meth c Z own n0 Bs En h cells slots pc Ls (v :: .ref a :: S) := fun vm0 T locs hZ hown hBs X hF eT => by
  subst hp
  obtain ⟨T', h', X', e', W, st⟩ := Jvm.RoadKit.putF (host := "") X C.1 hZ hown (Or.inl w) via eT F E L wi hty hnv hf (g := mkF m pc Ls (v :: .ref a :: S)) rfl rfl (hb C.2.1 hd)
  obtain ⟨s₂, o, L, k1, k2⟩ := K h' W vm0 T' _ hZ hown (hB _ _ W hBs) X' (Fr.snoc X' hF hn) e'
  exact ⟨s₂, o, L, st _ k1, k2⟩
theorem Go.initO (C : Cx p meth c bytes ml ret) {i : Nat} {a : Addr} (hd : decode bytes pc = .ok (.invokespecial i, 3)) (w1 : (Cond.methodLink own i Lib.objectInit).before a0 Z = true) (w2 : (Cond.instanceMethod Lib.objectInit).before a0 Z = true) (w3 : (Cond.code Lib.objectInit ⟨#[0xb1]⟩ 1 none).before a0 Z = true)
    (hsz : Ls.size = ml) (hfr : 1 ≤ R.frames) (hlo : (S.map fun v => v.category).sum + 12 ≤ R.locals) (hp : pc + 3 = pc') (K : Go p l e R s m args below meth c Z own n0 Bs En h cells slots pc' Ls S) :
    Go p l e R s m args below meth c Z own n0 Bs En h cells slots pc Ls (.ref a :: S) := by
  subst hp
  exact Go.same (fun vm0 T locs hZ hown X eT => Jvm.RoadKit.initO X C.1 hZ hown w1 w2 w3 eT (g := mkF m pc Ls (.ref a :: S)) rfl (by rw [C.2.2.1]; exact hsz) rfl (hb C.2.1 hd) hfr (W := (S.map fun v => v.category).sum) (by show 2 * 0 + _ ≤ _; omega) hlo) K
/-! ### calls: by whatever pays them -/
/-- a payment in the road kit's own form, whatever the tables that the walk has come to -/
def Pay (l : Launch) (R : Room) (p : Program) (e : Env) (below : List Frame) (s : State) (args : Array Value) (Z : State) (y : MethodName) (ln W : Nat) (as' : Array Value) (h : Heap) (kc ks : Nat) (Q : Option Value → Heap → List Loc → Prop) : Prop :=
  ∀ vm0 : Vm, Z.Warmed39 vm0 → Back l R p e below (s.setVm vm0) args y ln W (fun A a => a = as' ∧ A.U.heap = h ∧ A.cells + kc ≤ R.cells ∧ A.slots + ks ≤ R.slots) (fun A _ v B => ∃ L, Q v B.U.heap L ∧ B.locs = A.locs ++ L ∧ B.cells = A.cells + kc ∧ B.slots = A.slots + ks)
/-- a contract of a body: from the heap h0, with the arguments as', it returns, Q holds, and nothing below n0 was written -/
def Ct (l : Launch) (Z : State) (y : MethodName) (yb : ByteArray) (yl : Nat) (yr : Option FieldType) (ws : List Jvm.Cond) (rm : Room) (as' : Array Value) (h0 : Heap) (n0 : Nat) (Q : Option Value → Heap → Prop) : Prop :=
  MetFree l y (head1 (Cond.code y yb yl yr :: ws) rm) (fun a U => a = as' ∧ Z.Warmed39 U.vm ∧ U.heap = h0) (fun _ _ _ _ _ => True) (fun _ U o U' => ∃ v L, o = .returned v ∧ (Q v U'.heap ∧ Fr n0 L) ∧ FrameEnd U o U' L rm.cells rm.slots)
/-- how a walk of a contract ends -/
def EnN (s : State) (R : Room) (n0 : Nat) (Q : Option Value → Heap → Prop) : Outcome → State → List Loc → Prop := fun o s₂ L => ∃ v, o = .returned v ∧ (Q v s₂.heap ∧ Fr n0 L) ∧ FrameEnd s o s₂ L R.cells R.slots
theorem Ct.of {y : MethodName} {yb : ByteArray} {yl : Nat} {yr : Option FieldType} {ws : List Jvm.Cond} {rm : Room} {as' : Array Value} {h0 : Heap} {Q : Option Value → Heap → Prop} {L0 : Array Slot} (hp : plainFor y = true) (hef : ∀ m, entryFrame m as' yl = mkF m 0 L0 [])
    (body : ∀ (p : Program) (e : Env) (s : State) (m : MethodId) (below : List Frame) (meth : Method) (c : Code), Cx p meth c yb yl yr → meth.name = y.name → Go p l e rm s m as' below meth c Z y.cls n0 (Bn s) (EnN s rm n0 Q) h0 0 0 0 L0 []) : Ct l Z y yb yl yr ws rm as' h0 n0 Q := by
  refine MetFree.of_bodySF hp hisR ?_
  intro p e s m args below meth c s₁ Bd hml0 hP hK
  obtain ⟨rfl, hZ, hh⟩ := hP
  have X0 := Stand.of_body Bd
  obtain ⟨s₂, o, L, h1, h2, h3, v, h4⟩ := body p e s m below meth c ⟨Bd.exec, Bd.bytes, hml0, Bd.returns, Bd.notSynchronized⟩ (name_of_methodNamed Bd.named Bd.method).1 s.vm s₁ [] hZ (findClass_of_methodNamed Bd.named) rfl X0 (Fr.nil n0) (by rw [← hh, Bd.state]; rfl)
  exact ⟨s₂, o, castTop (hef m) h1, h2, h3, v, L, h4⟩
theorem Ct.pay {y : MethodName} {yb : ByteArray} {yl : Nat} {yr : Option FieldType} {rm : Room} {as' : Array Value} {ln W : Nat} {Q : Option Value → Heap → Prop} (hM : Ct l Z y yb yl yr [] rm as' h n0 Q) (w4 : (Cond.code y yb yl yr).before a0 Z = true) (w3 : (Cond.initialized y.cls).before a0 Z = true) (hfr : rm.frames + 1 ≤ R.frames) (hlo : W + (yl + 11) + rm.locals ≤ R.locals) :
    Pay l R p e below s args Z y ln W as' h rm.cells rm.slots (fun v h' L => Q v h' ∧ Fr n0 L) := fun vm0 hZ =>
  backOf (s := s.setVm vm0) (Q := fun v h' L => Q v h' ∧ Fr n0 L) hM hZ w4 w3 hfr hlo
theorem Pay.mono {y : MethodName} {ln W kc ks : Nat} {as' : Array Value} {Q Q' : Option Value → Heap → List Loc → Prop} (hP : Pay l R p e below s args Z y ln W as' h kc ks Q) (q : ∀ v h' L, Q v h' L → Q' v h' L) : Pay l R p e below s args Z y ln W as' h kc ks Q' := fun vm0 hZ =>
  Back.mono (hP vm0 hZ) (fun _ _ r => r) (fun A a v B _ ⟨L, r1, r2⟩ => ⟨L, q _ _ _ r1, r2⟩)
/-- more cells and slots booked than made -/
theorem Go.more {cells' slots' : Nat} (hc : cells ≤ cells') (hs : slots ≤ slots') (K : Go p l e R s m args below meth c Z own n0 Bs En h cells' slots' pc Ls S) : Go p l e R s m args below meth c Z own n0 Bs En h cells slots pc Ls S := fun vm0 T locs hZ hown hB X hF eT => K vm0 T locs hZ hown hB (X.more hc hs) hF eT
theorem Go.callS (C : Cx p meth c bytes ml ret) {i : Nat} {y : MethodName} {yb : ByteArray} {yl : Nat} {yr : Option FieldType} {argsL rest : List Value} {W kc ks : Nat} {Q : Option Value → Heap → List Loc → Prop}
    (hd : decode bytes pc = .ok (.invokestatic i, 3)) (w1 : (Cond.methodLink own i y).before a0 Z = true) (w2 : (Cond.static y).before a0 Z = true) (w3 : (Cond.initialized y.cls).before a0 Z = true) (w4 : (Cond.code y yb yl yr).before a0 Z = true) (hy : y.cls ≠ "java/lang/invoke/MethodHandle" ∧ y.cls ≠ "java/lang/invoke/VarHandle")
    (hS : S = argsL.reverse ++ rest) (hlen : ∀ sig, parseMethodDescriptor y.desc = some sig → argsL.length = sig.parameters.length) (hsz : Ls.size = ml) (hW : (rest.map fun v => v.category).sum ≤ W) (hK : Pay l R p e below s args Z y 3 W argsL.toArray h kc ks Q)
    (hQ : ∀ v h' L, Q v h' L → Fr n0 L) (hce : cells + kc ≤ R.cells) (hsl : slots + ks ≤ R.slots) {Bs' : Vm → Heap → Prop} (hB : ∀ vm v h' L, Q v h' L → Bs vm h → Bs' vm h') (hp : pc + 3 = pc')
    (K : ∀ v h' L, Q v h' L → Go p l e R s m args below meth c Z own n0 Bs' En h' (cells + kc) (slots + ks) pc' Ls (v.toList ++ rest)) :
    Go p l e R s m args below meth c Z own n0 Bs En h cells slots pc Ls S := fun vm0 T locs hZ hown hBs X hF eT => by
  subst hp hS
  obtain ⟨v, vm1, ⟨T', L', k', n'⟩, -, X', ⟨Lc, hq, l1, y1, z1⟩, st⟩ := Jvm.LawKit.callS X C.1 (y := y) hown (mvT (s := s.setVm vm0) hZ w1) (mvT (s := s.setVm vm0) hZ w2) (mvT (s := s.setVm vm0) hZ w3) (mvT (s := s.setVm vm0) hZ w4) hy (hK vm0 hZ) (g := mkF m pc Ls (argsL.reverse ++ rest)) rfl (by rw [C.2.2.1]; exact hsz) (argsL := argsL) (rest := rest) hlen rfl (by show 2 * 0 + _ ≤ _; omega) (hb C.2.1 hd) (fun _ _ => ⟨rfl, eT, hce, hsl⟩)
  dsimp only [Pt.U, Pt.locs, Pt.cells, Pt.slots] at X' l1 y1 z1 st hq
  subst l1 y1 z1
  obtain ⟨s₂, o, L, k1, k2⟩ := K v T'.heap Lc hq vm0 T' _ hZ hown (hB _ _ _ _ hq hBs) X' (Fr.app hF (hQ _ _ _ hq)) rfl
  exact ⟨s₂, o, L, st _ k1, k2⟩
theorem Go.callV (C : Cx p meth c bytes ml ret) {i : Nat} {C0 : String} {b : Addr} {y z : MethodName} {argsL rest : List Value} {W kc ks : Nat} {Q : Option Value → Heap → List Loc → Prop}
    (hd : decode bytes pc = .ok (.invokevirtual i, 3)) (w1 : (Cond.methodLink own i y).before a0 Z = true) (w2 : (Cond.declares y).before a0 Z = true) (w3 : (Cond.selects C0 y z).before a0 Z = true) (w4 : (Cond.instanceMethod z).before a0 Z = true) (hnf : ∀ st : State, Z.Warmed39 st.vm → NotFace st y) (hy : y.cls ≠ "java/lang/invoke/MethodHandle" ∧ y.cls ≠ "java/lang/invoke/VarHandle") (E : Exa Z h b C0)
    (hS : S = argsL.reverse ++ .ref b :: rest) (hlen : ∀ sig, parseMethodDescriptor y.desc = some sig → argsL.length = sig.parameters.length) (hsz : Ls.size = ml) (hW : (rest.map fun v => v.category).sum ≤ W) (hK : Pay l R p e below s args Z z 3 W (.ref b :: argsL).toArray h kc ks Q)
    (hQ : ∀ v h' L, Q v h' L → Fr n0 L) (hce : cells + kc ≤ R.cells) (hsl : slots + ks ≤ R.slots) {Bs' : Vm → Heap → Prop} (hB : ∀ vm v h' L, Q v h' L → Bs vm h → Bs' vm h') (hp : pc + 3 = pc')
    (K : ∀ v h' L, Q v h' L → Go p l e R s m args below meth c Z own n0 Bs' En h' (cells + kc) (slots + ks) pc' Ls (v.toList ++ rest)) :
    Go p l e R s m args below meth c Z own n0 Bs En h cells slots pc Ls S := fun vm0 T locs hZ hown hBs X hF eT => by
  subst hp hS
  obtain ⟨cq, kq, qa, qb, qc⟩ := isOf (s := s.setVm vm0) hZ eT E
  obtain ⟨v, vm1, ⟨T', L', k', n'⟩, -, X', ⟨Lc, hq, l1, y1, z1⟩, st⟩ := X.virtualBack C.1 (y := y) (z := z) hown (mvT (s := s.setVm vm0) hZ w1) (mvT (s := s.setVm vm0) hZ w2) (hnf (s.setVm vm0) hZ) (mvT (s := s.setVm vm0) hZ w3) (mvT (s := s.setVm vm0) hZ w4) hy (hK vm0 hZ) qa qc (g := mkF m pc Ls (argsL.reverse ++ .ref b :: rest)) rfl (by rw [C.2.2.1]; exact hsz) (Steps.refl _) (argsL := argsL) (rest := rest) hlen rfl (by show 2 * 0 + _ ≤ _; omega) (hb C.2.1 hd) (fun _ _ => ⟨rfl, eT, hce, hsl⟩)
  dsimp only [Pt.U, Pt.locs, Pt.cells, Pt.slots] at X' l1 y1 z1 st hq
  subst l1 y1 z1
  obtain ⟨s₂, o, L, k1, k2⟩ := K v T'.heap Lc hq vm0 T' _ hZ hown (hB _ _ _ _ hq hBs) X' (Fr.app hF (hQ _ _ _ hq)) rfl
  exact ⟨s₂, o, L, st.trans k1, k2⟩
theorem Go.callN (C : Cx p meth c bytes ml ret) {i : Nat} {a : Addr} {y : MethodName} {yb : ByteArray} {yl : Nat} {argsL rest : List Value} {W kc ks : Nat} {Q : Option Value → Heap → List Loc → Prop}
    (hd : decode bytes pc = .ok (.invokespecial i, 3)) (hy1 : y.name = "<init>") (w1 : (Cond.methodLink own i y).before a0 Z = true) (w2 : (Cond.instanceMethod y).before a0 Z = true) (w3 : (Cond.code y yb yl none).before a0 Z = true) (hy : y.cls ≠ "java/lang/invoke/MethodHandle" ∧ y.cls ≠ "java/lang/invoke/VarHandle")
    (hS : S = argsL.reverse ++ .ref a :: rest) (hlen : ∀ sig, parseMethodDescriptor y.desc = some sig → argsL.length = sig.parameters.length) (hsz : Ls.size = ml) (hW : (rest.map fun v => v.category).sum ≤ W) (hK : Pay l R p e below s args Z y 3 W (.ref a :: argsL).toArray h kc ks Q)
    (hQ : ∀ v h' L, Q v h' L → Fr n0 L) (hce : cells + kc ≤ R.cells) (hsl : slots + ks ≤ R.slots) {Bs' : Vm → Heap → Prop} (hB : ∀ vm v h' L, Q v h' L → Bs vm h → Bs' vm h') (hp : pc + 3 = pc')
    (K : ∀ v h' L, Q v h' L → Go p l e R s m args below meth c Z own n0 Bs' En h' (cells + kc) (slots + ks) pc' Ls (v.toList ++ rest)) :
    Go p l e R s m args below meth c Z own n0 Bs En h cells slots pc Ls S := fun vm0 T locs hZ hown hBs X hF eT => by
  subst hp hS
  obtain ⟨v, vm1, ⟨T', L', k', n'⟩, -, X', ⟨Lc, hq, l1, y1, z1⟩, st⟩ := X.specialBack C.1 (y := y) hy1 hown (mvT (s := s.setVm vm0) hZ w1) (mvT (s := s.setVm vm0) hZ w2) (mvT (s := s.setVm vm0) hZ w3) hy (hK vm0 hZ) (g := mkF m pc Ls (argsL.reverse ++ .ref a :: rest)) rfl (by rw [C.2.2.1]; exact hsz) (Steps.refl _) (a := a) (argsL := argsL) (rest := rest) hlen rfl (by show 2 * 0 + _ ≤ _; omega) (hb C.2.1 hd) (fun _ _ => ⟨rfl, eT, hce, hsl⟩)
  dsimp only [Pt.U, Pt.locs, Pt.cells, Pt.slots] at X' l1 y1 z1 st hq
  subst l1 y1 z1
  obtain ⟨s₂, o, L, k1, k2⟩ := K v T'.heap Lc hq vm0 T' _ hZ hown (hB _ _ _ _ hq hBs) X' (Fr.app hF (hQ _ _ _ hq)) rfl
  exact ⟨s₂, o, L, st.trans k1, k2⟩
/-! ### the ends of a walk that interns nothing -/
theorem Go.retI (C : Cx p meth c bytes ml (some .int)) {z : Int32} {Q : Option Value → Heap → Prop} (hd : decode bytes pc = .ok (.ireturn, 1)) (hc : cells ≤ R.cells) (hl : slots ≤ R.slots) (hQ : Q (some (.int z)) h) : Go p l e R s m args below meth c Z own n0 (Bn s) (EnN s R n0 Q) h cells slots pc Ls (.int z :: S) := fun vm0 T locs hZ hown hB X hF eT => by
  obtain rfl : vm0 = s.vm := hB
  obtain ⟨fs, hr, hrun, hended, hW, hsame⟩ := X.leave (v := some (.int z)) (fun q => by rw [C.2.2.2.1] at q; cases q) C.2.2.2.2
  exact ⟨_, _, locs, Jvm.RoadKit.retOut X C.1 C.2.2.2.1 rfl (Or.inl ⟨rfl, Or.inl rfl, _, rfl⟩) (hb C.2.1 hd) hr, hrun, hended, _, rfl, ⟨by subst eT; exact hQ, hF⟩, ⟨_, rfl⟩, hW, hsame.mono hc hl⟩
theorem Go.retN {t : FieldType} (C : Cx p meth c bytes ml (some t)) (ht : t = .boolean ∨ t = .byte ∨ t = .char ∨ t = .short) {z : Int32} {Q : Option Value → Heap → Prop} (hd : decode bytes pc = .ok (.ireturn, 1)) (hc : cells ≤ R.cells) (hl : slots ≤ R.slots) (hQ : Q (some (.int (nar t z))) h) : Go p l e R s m args below meth c Z own n0 (Bn s) (EnN s R n0 Q) h cells slots pc Ls (.int z :: S) := fun vm0 T locs hZ hown hB X hF eT => by
  obtain rfl : vm0 = s.vm := hB
  obtain ⟨fs, hr, hrun, hended, hW, hsame⟩ := X.leave (v := some (.int (nar t z))) (fun q => by rw [C.2.2.2.1] at q; cases q) C.2.2.2.2
  exact ⟨_, _, locs, Jvm.RoadKit.retN X C.1 C.2.2.2.1 ht (hb C.2.1 hd) hr, hrun, hended, _, rfl, ⟨by subst eT; exact hQ, hF⟩, ⟨_, rfl⟩, hW, hsame.mono hc hl⟩
theorem Go.retA {t : FieldType} (C : Cx p meth c bytes ml (some t)) (ht : t.isReference = true) {v : Value} {Q : Option Value → Heap → Prop} (hd : decode bytes pc = .ok (.areturn, 1)) (hv : v.isRef = true) (hc : cells ≤ R.cells) (hl : slots ≤ R.slots) (hQ : Q (some v) h) : Go p l e R s m args below meth c Z own n0 (Bn s) (EnN s R n0 Q) h cells slots pc Ls (v :: S) := fun vm0 T locs hZ hown hB X hF eT => by
  obtain rfl : vm0 = s.vm := hB
  obtain ⟨fs, hr, hrun, hended, hW, hsame⟩ := X.leave (v := some v) (fun q => by rw [C.2.2.2.1] at q; cases q) C.2.2.2.2
  have hn : narrow t v = v := by cases v <;> simp [Value.isRef] at hv <;> cases t <;> simp [FieldType.isReference] at ht <;> rfl
  exact ⟨_, _, locs, Jvm.RoadKit.retOut X C.1 C.2.2.2.1 hn (Or.inr (Or.inr (Or.inr (Or.inr ⟨rfl, ht, hv⟩)))) (hb C.2.1 hd) hr, hrun, hended, _, rfl, ⟨by subst eT; exact hQ, hF⟩, ⟨_, rfl⟩, hW, hsame.mono hc hl⟩
theorem Go.retL (C : Cx p meth c bytes ml (some .long)) {z : Int64} {Q : Option Value → Heap → Prop} (hd : decode bytes pc = .ok (.lreturn, 1)) (hc : cells ≤ R.cells) (hl : slots ≤ R.slots) (hQ : Q (some (.long z)) h) : Go p l e R s m args below meth c Z own n0 (Bn s) (EnN s R n0 Q) h cells slots pc Ls (.long z :: S) := fun vm0 T locs hZ hown hB X hF eT => by
  obtain rfl : vm0 = s.vm := hB
  obtain ⟨fs, hr, hrun, hended, hW, hsame⟩ := X.leave (v := some (.long z)) (fun q => by rw [C.2.2.2.1] at q; cases q) C.2.2.2.2
  exact ⟨_, _, locs, Jvm.RoadKit.retOut X C.1 C.2.2.2.1 rfl (Or.inr (Or.inl ⟨rfl, rfl, _, rfl⟩)) (hb C.2.1 hd) hr, hrun, hended, _, rfl, ⟨by subst eT; exact hQ, hF⟩, ⟨_, rfl⟩, hW, hsame.mono hc hl⟩
theorem Go.retD (C : Cx p meth c bytes ml (some .double)) {z : UInt64} {Q : Option Value → Heap → Prop} (hd : decode bytes pc = .ok (.dreturn, 1)) (hc : cells ≤ R.cells) (hl : slots ≤ R.slots) (hQ : Q (some (.double z)) h) : Go p l e R s m args below meth c Z own n0 (Bn s) (EnN s R n0 Q) h cells slots pc Ls (.double z :: S) := fun vm0 T locs hZ hown hB X hF eT => by
  obtain rfl : vm0 = s.vm := hB
  obtain ⟨fs, hr, hrun, hended, hW, hsame⟩ := X.leave (v := some (.double z)) (fun q => by rw [C.2.2.2.1] at q; cases q) C.2.2.2.2
  exact ⟨_, _, locs, Jvm.RoadKit.retOut X C.1 C.2.2.2.1 rfl (Or.inr (Or.inr (Or.inl ⟨rfl, rfl, _, rfl⟩))) (hb C.2.1 hd) hr, hrun, hended, _, rfl, ⟨by subst eT; exact hQ, hF⟩, ⟨_, rfl⟩, hW, hsame.mono hc hl⟩
theorem Go.retV (C : Cx p meth c bytes ml none) {Q : Option Value → Heap → Prop} (hd : decode bytes pc = .ok (.return_, 1)) (hc : cells ≤ R.cells) (hl : slots ≤ R.slots) (hQ : Q none h) : Go p l e R s m args below meth c Z own n0 (Bn s) (EnN s R n0 Q) h cells slots pc Ls [] := fun vm0 T locs hZ hown hB X hF eT => by
  obtain rfl : vm0 = s.vm := hB
  obtain ⟨fs, hr, hrun, hended, hW, hsame⟩ := X.leave (v := none) (fun q => rfl) C.2.2.2.2
  exact ⟨_, _, locs, X.returnOut C.1 C.2.2.2.1 (hb C.2.1 hd) hr, hrun, hended, _, rfl, ⟨by subst eT; exact hQ, hF⟩, ⟨_, rfl⟩, hW, hsame.mono hc hl⟩
/-! ### arrays by what they hold -/
theorem Go.newPV (C : Cx p meth c bytes ml ret) {Bs' : Vm → Heap → Prop} (hE : ∀ vm h', Ext h h' → h.size < h'.size → Bs vm h → Bs' vm h') {aty : ArrayType} {n : Int32} (hd : decode bytes pc = .ok (.newarray aty, 2)) (w : (Cond.arrayClass (newarray.typeOf aty)).before a0 Z = true) (hn : ¬ n < 0) {cap : Nat} (hcap : n.toNatClampNeg ≤ cap) (hb8 : cap * 8 ≤ 536870912) (hc : cells + 1 ≤ R.cells) (hl : slots + cap ≤ R.slots) (hp : pc + 2 = pc') {dv : Value} (hdv : defaultValue (newarray.typeOf aty) = dv)
    (K : ∀ h' cA, Ext h h' → Arv Z h' h.size cA (newarray.typeOf aty) n (List.replicate cap dv) dv → Go p l e R s m args below meth c Z own n0 Bs' En h' (cells + 1) (slots + cap) pc' Ls (.ref h.size :: S)) :
    Go p l e R s m args below meth c Z own n0 Bs En h cells slots pc Ls (.int n :: S) :=
  Go.newP C hE hd w hn hcap hb8 hc hl hp fun h' cA E A => K h' cA E (by subst hdv; simpa using (Arv.new A hn).pad (pad_rep [] _ cap))
theorem arv_in {a : Addr} {k : ClassId} {ty : FieldType} {z j : Int32} {vs : List Value} {dv : Value} (V : Arv Z h a k ty z vs dv) (h0 : ¬ j < 0) (hz : j < z) : ∃ cl, Arr Z h a cl ty ∧ ¬ (j < 0 ∨ cl.slots.size ≤ j.toNatClampNeg) ∧ cl.slots[j.toNatClampNeg]? = some (vs.getD j.toNatClampNeg dv) := by
  obtain ⟨cl, A, q, S, M, H, U⟩ := V
  have hin := inb_of S ⟨h0, hz⟩
  exact ⟨cl, A, hin, H.at hin rfl⟩
theorem Go.castoreV (C : Cx p meth c bytes ml ret) {a : Addr} {k : ClassId} {z j x : Int32} {vs : List Value} {dv : Value} (hd : decode bytes pc = .ok (.castore, 1)) (V : Arv Z h a k .char z vs dv) (h0 : ¬ j < 0) (hz : j < z) (i : Nat) (hji : j.toNatClampNeg = i) (hi : i < vs.length) (hn : n0 ≤ a) (hB : ∀ vm h', Wr h h' a j.toNatClampNeg (.int (nar .char x)) → Bs vm h → Bs vm h') (hp : pc + 1 = pc')
    (K : ∀ h', Wr h h' a j.toNatClampNeg (.int (nar .char x)) → Arv Z h' a k .char z (vs.set i (.int (nar .char x))) dv → Go p l e R s m args below meth c Z own n0 Bs En h' cells slots pc' Ls S) :
    Go p l e R s m args below meth c Z own n0 Bs En h cells slots pc Ls (.int x :: .int j :: .ref a :: S) := by
  obtain ⟨cl, A, q, S1, M, H, U⟩ := V
  exact Go.castore C hd A (inb_of S1 ⟨h0, hz⟩) hn hB hp fun h' W => K h' W (Arv.set A q S1 M H U (fits_nar_char _) W i hji hi)
theorem Go.bastoreV (C : Cx p meth c bytes ml ret) {a : Addr} {k : ClassId} {z j x : Int32} {vs : List Value} {dv : Value} (hd : decode bytes pc = .ok (.bastore, 1)) (V : Arv Z h a k .byte z vs dv) (h0 : ¬ j < 0) (hz : j < z) (i : Nat) (hji : j.toNatClampNeg = i) (hi : i < vs.length) (hn : n0 ≤ a) (hB : ∀ vm h', Wr h h' a j.toNatClampNeg (.int (nar .byte x)) → Bs vm h → Bs vm h') (hp : pc + 1 = pc')
    (K : ∀ h', Wr h h' a j.toNatClampNeg (.int (nar .byte x)) → Arv Z h' a k .byte z (vs.set i (.int (nar .byte x))) dv → Go p l e R s m args below meth c Z own n0 Bs En h' cells slots pc' Ls S) :
    Go p l e R s m args below meth c Z own n0 Bs En h cells slots pc Ls (.int x :: .int j :: .ref a :: S) := by
  obtain ⟨cl, A, q, S1, M, H, U⟩ := V
  exact Go.bastore C hd A (inb_of S1 ⟨h0, hz⟩) hn hB hp fun h' W => K h' W (Arv.set A q S1 M H U (fits_nar_byte _) W i hji hi)
theorem Go.dastoreV (C : Cx p meth c bytes ml ret) {a : Addr} {k : ClassId} {z j : Int32} {x : UInt64} {vs : List Value} {dv : Value} (hd : decode bytes pc = .ok (.dastore, 1)) (V : Arv Z h a k .double z vs dv) (h0 : ¬ j < 0) (hz : j < z) (i : Nat) (hji : j.toNatClampNeg = i) (hi : i < vs.length) (hn : n0 ≤ a) (hB : ∀ vm h', Wr h h' a j.toNatClampNeg (.double x) → Bs vm h → Bs vm h') (hp : pc + 1 = pc')
    (K : ∀ h', Wr h h' a j.toNatClampNeg (.double x) → Arv Z h' a k .double z (vs.set i (.double x)) dv → Go p l e R s m args below meth c Z own n0 Bs En h' cells slots pc' Ls S) :
    Go p l e R s m args below meth c Z own n0 Bs En h cells slots pc Ls (.double x :: .int j :: .ref a :: S) := fun vm0 T locs hZ hown hBs X hF eT => by
  subst hp
  obtain ⟨cl, A, q, S1, M, H, U⟩ := V
  obtain ⟨T', h', X', e', W, st⟩ := stD X C.1 hZ eT A (inb_of S1 ⟨h0, hz⟩) (g := mkF m pc Ls (.double x :: .int j :: .ref a :: S)) rfl rfl (hb C.2.1 hd)
  obtain ⟨s₂, o, L, k1, k2⟩ := K h' W (Arv.set A q S1 M H U rfl W i hji hi) vm0 T' _ hZ hown (hB _ _ W hBs) X' (Fr.snoc X' hF hn) e'
  exact ⟨s₂, o, L, st _ k1, k2⟩
theorem Go.daloadV (C : Cx p meth c bytes ml ret) {a : Addr} {k : ClassId} {z j : Int32} {vs : List Value} {dv v : Value} (hd : decode bytes pc = .ok (.daload, 1)) (V : Arv Z h a k .double z vs dv) (h0 : ¬ j < 0) (hz : j < z) (hv : vs.getD j.toNatClampNeg dv = v) (hp : pc + 1 = pc')
    (K : Go p l e R s m args below meth c Z own n0 Bs En h cells slots pc' Ls (v :: S)) : Go p l e R s m args below meth c Z own n0 Bs En h cells slots pc Ls (.int j :: .ref a :: S) := by
  obtain ⟨cl, A, hin, q⟩ := arv_in V h0 hz
  exact Go.daload C hd A hin (hv ▸ q) hp K
theorem Go.aaloadV (C : Cx p meth c bytes ml ret) {a : Addr} {k : ClassId} {ty : FieldType} {z j : Int32} {vs : List Value} {dv v : Value} (hd : decode bytes pc = .ok (.aaload, 1)) (V : Arv Z h a k ty z vs dv) (hty : ty.isReference = true) (h0 : ¬ j < 0) (hz : j < z) (hv : vs.getD j.toNatClampNeg dv = v) (hp : pc + 1 = pc')
    (K : Go p l e R s m args below meth c Z own n0 Bs En h cells slots pc' Ls (v :: S)) : Go p l e R s m args below meth c Z own n0 Bs En h cells slots pc Ls (.int j :: .ref a :: S) := by
  obtain ⟨cl, A, hin, q⟩ := arv_in V h0 hz
  exact Go.aaload C hd A hty hin (hv ▸ q) hp K
/-- newarray, and the array's class by its name -/
theorem Go.newPVE (C : Cx p meth c bytes ml ret) {Bs' : Vm → Heap → Prop} (hE : ∀ vm h', Ext h h' → h.size < h'.size → Bs vm h → Bs' vm h') {aty : ArrayType} {n : Int32} (hd : decode bytes pc = .ok (.newarray aty, 2)) (w : (Cond.arrayClass (newarray.typeOf aty)).before a0 Z = true) (hn : ¬ n < 0) {cap : Nat} (hcap : n.toNatClampNeg ≤ cap) (hb8 : cap * 8 ≤ 536870912) (hc : cells + 1 ≤ R.cells) (hl : slots + cap ≤ R.slots) (hp : pc + 2 = pc') {dv : Value} (hdv : defaultValue (newarray.typeOf aty) = dv) {ad : String} (had : "[" ++ (newarray.typeOf aty).toString = ad)
    (K : ∀ h' cA, Ext h h' → Arv Z h' h.size cA (newarray.typeOf aty) n (List.replicate cap dv) dv → Exa Z h' h.size ad → Go p l e R s m args below meth c Z own n0 Bs' En h' (cells + 1) (slots + cap) pc' Ls (.ref h.size :: S)) :
    Go p l e R s m args below meth c Z own n0 Bs En h cells slots pc Ls (.int n :: S) := fun vm0 T locs hZ hown hB X hF eT => by
  subst hp hdv
  obtain ⟨T', h', cA, X', e', E, A, A2, st⟩ := Jvm.RoadKit.newPE X C.1 hZ w eT (g := mkF m pc Ls (.int n :: S)) rfl (hb C.2.1 hd) rfl hn hcap hb8 hc hl had
  obtain ⟨s₂, o, L, k1, k2⟩ := K h' cA E (by simpa using (Arv.new A hn).pad (pad_rep [] _ cap)) A2 vm0 T' locs hZ hown (hE _ _ E A.lt hB) X' hF e'
  exact ⟨s₂, o, L, st _ k1, k2⟩
/-- an array's clone() -/
theorem Go.cloneV (C : Cx p meth c bytes ml ret) {Bs' : Vm → Heap → Prop} (hE : ∀ vm h', Ext h h' → h.size < h'.size → Bs vm h → Bs' vm h') {i cap : Nat} {ad : String} {a : Addr} {k : ClassId} {ty : FieldType} {z : Int32} {vs : List Value} {dv : Value} (hd : decode bytes pc = .ok (.invokevirtual i, 3))
    (w1 : (Cond.methodLink own i ⟨ad, "clone", "()Ljava/lang/Object;"⟩).before a0 Z = true) (w2 : (Cond.sameMethod ad "java/lang/Object" "clone" "()Ljava/lang/Object;").before a0 Z = true) (w3 : (Cond.native ⟨"java/lang/Object", "clone", "()Ljava/lang/Object;"⟩).before a0 Z = true)
    (w4 : (Cond.instanceMethod ⟨"java/lang/Object", "clone", "()Ljava/lang/Object;"⟩).before a0 Z = true) (w5 : (Cond.selects ad ⟨ad, "clone", "()Ljava/lang/Object;"⟩ ⟨"java/lang/Object", "clone", "()Ljava/lang/Object;"⟩).before a0 Z = true) (w6 : (Cond.castable ad "java/lang/Cloneable").before a0 Z = true)
    (V : Arv Z h a k ty z vs dv) (E : Exa Z h a ad) (hsz : Ls.size = ml) (hfr : 1 ≤ R.frames) (hlo : (S.map fun v => v.category).sum + 14 ≤ R.locals) (hcap : z.toNatClampNeg ≤ cap) (hc : cells + 1 ≤ R.cells) (hsl : slots + cap ≤ R.slots) (hp : pc + 3 = pc')
    (K : ∀ h', Ext h h' → Arv Z h' h.size k ty z vs dv → Exa Z h' h.size ad → Go p l e R s m args below meth c Z own n0 Bs' En h' (cells + 1) (slots + cap) pc' Ls (.ref h.size :: S)) :
    Go p l e R s m args below meth c Z own n0 Bs En h cells slots pc Ls (.ref a :: S) := fun vm0 T locs hZ hown hB X hF eT => by
  subst hp
  obtain ⟨T', h', X', e', E1, A1, A2, st⟩ := Jvm.RoadKit.cloneH X C.1 hZ hown w1 w2 w3 w4 w5 w6 eT V.arh E (g := mkF m pc Ls (.ref a :: S)) rfl (by rw [C.2.2.1]; exact hsz) rfl (hb C.2.1 hd) hfr (W := (S.map fun v => v.category).sum) (by show 2 * 0 + _ ≤ _; omega) hlo hcap hc hsl
  obtain ⟨s₂, o, L, k1, k2⟩ := K h' E1 A1 A2 vm0 T' locs hZ hown (hE _ _ E1 A2.lt hB) X' hF e'
  exact ⟨s₂, o, L, st _ k1, k2⟩
theorem Go.baloadV (C : Cx p meth c bytes ml ret) {a : Addr} {k : ClassId} {z j : Int32} {vs : List Value} {dv v : Value} (hd : decode bytes pc = .ok (.baload, 1)) (V : Arv Z h a k .byte z vs dv) (h0 : ¬ j < 0) (hz : j < z) (hv : vs.getD j.toNatClampNeg dv = v) (hp : pc + 1 = pc')
    (K : Go p l e R s m args below meth c Z own n0 Bs En h cells slots pc' Ls (v :: S)) : Go p l e R s m args below meth c Z own n0 Bs En h cells slots pc Ls (.int j :: .ref a :: S) := by
  obtain ⟨cl, A, hin, q⟩ := arv_in V h0 hz
  exact Go.baload C hd A hin (hv ▸ q) hp K
theorem Go.caloadV (C : Cx p meth c bytes ml ret) {a : Addr} {k : ClassId} {z j : Int32} {vs : List Value} {dv v : Value} (hd : decode bytes pc = .ok (.caload, 1)) (V : Arv Z h a k .char z vs dv) (h0 : ¬ j < 0) (hz : j < z) (hv : vs.getD j.toNatClampNeg dv = v) (hp : pc + 1 = pc')
    (K : Go p l e R s m args below meth c Z own n0 Bs En h cells slots pc' Ls (v :: S)) : Go p l e R s m args below meth c Z own n0 Bs En h cells slots pc Ls (.int j :: .ref a :: S) := by
  obtain ⟨cl, A, hin, q⟩ := arv_in V h0 hz
  exact Go.caload C hd A hin (hv ▸ q) hp K
theorem Go.arraylengthV (C : Cx p meth c bytes ml ret) {a : Addr} {k : ClassId} {ty : FieldType} {z : Int32} {vs : List Value} {dv : Value} (hd : decode bytes pc = .ok (.arraylength, 1)) (V : Arv Z h a k ty z vs dv) (hp : pc + 1 = pc')
    (K : Go p l e R s m args below meth c Z own n0 Bs En h cells slots pc' Ls (.int z :: S)) : Go p l e R s m args below meth c Z own n0 Bs En h cells slots pc Ls (.ref a :: S) := by
  obtain ⟨cl, A, q, S1, M, H, U⟩ := V
  exact Go.arraylength C hd A (len_of S1 M) hp K
end Heaps
end Jvm.Own
namespace Jvm.Own
open Jvm Jvm.ClassFile Sem Op Lib Jvm.Free Jvm.Stand Jvm.LawKit Jvm.RoadKit Bundle
section Wide
variable {p : Program} {l : Launch} {e : Env} {R : Room} {s : State} {m : MethodId} {args : Array Value} {below : List Frame} {meth : Method} {c : Code} {Z : State} {own : String} {n0 : Nat} {Bs : Vm → Heap → Prop} {En : Outcome → State → List Loc → Prop} {h h' : Heap} {cells slots pc pc' : Nat} {Ls : Array Slot} {S : List Value} {bytes : ByteArray} {ml : Nat} {ret : Option FieldType} {a0 : Array Value} {EL : List (String × Nat)} {Sf : List Addr} {vm : Vm}
/-- the base of a walk that may intern: since the start s; the addresses Sf are no literal's -/
def Bw (s Z : State) (EL : List (String × Nat)) (Sf : List Addr) : Vm → Heap → Prop := fun vm h => (∃ k0, s.Since vm k0 ∧ k0 ≤ h.size) ∧ CHr Z EL s.vm s.heap vm h ∧ ∀ x ∈ Sf, Safe Z EL vm h x ∧ x < h.size
/-- how a walk ends that may intern -/
def EnW (s : State) (R : Room) (n0 : Nat) (Z : State) (EL : List (String × Nat)) (Q : Option Value → Heap → Prop) : Outcome → State → List Loc → Prop := fun o s₂ L => ∃ v, o = .returned v ∧ (Q v s₂.heap ∧ Fr n0 L) ∧ CHr Z EL s.vm s.heap s₂.vm s₂.heap ∧ ReturnedEndW s o s₂ L R.cells R.slots
/-- a contract of a body that may intern -/
def CtW (l : Launch) (Z : State) (EL : List (String × Nat)) (Sf : List Addr) (y : MethodName) (yb : ByteArray) (yl : Nat) (yr : Option FieldType) (ws : List Jvm.Cond) (rm : Room) (as' : Array Value) (h0 : Heap) (n0 : Nat) (Q : Option Value → Heap → Prop) : Prop :=
  MetFree l y (head1 (Cond.code y yb yl yr :: ws) rm) (fun a U => a = as' ∧ Z.Warmed39 U.vm ∧ U.heap = h0 ∧ CHv Z EL U.vm h0 ∧ ∀ x ∈ Sf, Safe Z EL U.vm h0 x ∧ x < h0.size) (fun _ _ _ _ _ => True) (fun _ U o U' => ∃ v L, o = .returned v ∧ (Q v U'.heap ∧ Fr n0 L) ∧ CHr Z EL U.vm U.heap U'.vm U'.heap ∧ ReturnedEndW U o U' L rm.cells rm.slots)
theorem CtW.of {y : MethodName} {yb : ByteArray} {yl : Nat} {yr : Option FieldType} {ws : List Jvm.Cond} {rm : Room} {as' : Array Value} {h0 : Heap} {Q : Option Value → Heap → Prop} {L0 : Array Slot} (hp : plainFor y = true) (hef : ∀ m, entryFrame m as' yl = mkF m 0 L0 [])
    (body : ∀ (p : Program) (e : Env) (s : State) (m : MethodId) (below : List Frame) (meth : Method) (c : Code), Cx p meth c yb yl yr → meth.name = y.name → Go p l e rm s m as' below meth c Z y.cls n0 (Bw s Z EL Sf) (EnW s rm n0 Z EL Q) h0 0 0 0 L0 []) : CtW l Z EL Sf y yb yl yr ws rm as' h0 n0 Q := by
  refine MetFree.of_bodySF hp hisR ?_
  intro p e s m args below meth c s₁ Bd hml0 hP hK
  obtain ⟨rfl, hZ, hh, hC, hSf⟩ := hP
  have X0 := Stand.of_body Bd
  have hb0 : Bw s Z EL Sf s.vm h0 := ⟨⟨s.heap.size, (State.WarmedH.refl s).since _, by rw [hh]; exact Nat.le_refl _⟩, by subst hh; exact CHr.refl hC, hSf⟩
  obtain ⟨s₂, o, L, h1, h2, h3, v, h4, h5, h6⟩ := body p e s m below meth c ⟨Bd.exec, Bd.bytes, hml0, Bd.returns, Bd.notSynchronized⟩ (name_of_methodNamed Bd.named Bd.method).1 s.vm s₁ [] hZ (findClass_of_methodNamed Bd.named) hb0 X0 (Fr.nil n0) (by rw [← hh, Bd.state]; rfl)
  exact ⟨s₂, o, castTop (hef m) h1, h2, h3, v, L, h4, h5, h6⟩
/-- a payment of a callee that may intern -/
def PayW (l : Launch) (R : Room) (p : Program) (e : Env) (below : List Frame) (s : State) (args : Array Value) (Z : State) (EL : List (String × Nat)) (Sf : List Addr) (y : MethodName) (ln W : Nat) (as' : Array Value) (h : Heap) (kc ks : Nat) (Q : Option Value → Heap → List Loc → Prop) : Prop :=
  ∀ vm0 : Vm, Z.Warmed39 vm0 → CHv Z EL vm0 h → (∀ x ∈ Sf, Safe Z EL vm0 h x ∧ x < h.size) → BackS l R p e below (s.setVm vm0) args y ln W (fun A a => a = as' ∧ A.U.heap = h ∧ A.cells + kc ≤ R.cells ∧ A.slots + ks ≤ R.slots) (fun A _ v B => ∃ L, Q v B.U.heap L ∧ B.locs = A.locs ++ L ∧ B.cells = A.cells + kc ∧ B.slots = A.slots + ks ∧ CHr Z EL vm0 h B.U.vm B.U.heap)
theorem CtW.pay {y : MethodName} {yb : ByteArray} {yl : Nat} {yr : Option FieldType} {rm : Room} {as' : Array Value} {ln W : Nat} {Q : Option Value → Heap → Prop} (hM : CtW l Z EL Sf y yb yl yr [] rm as' h n0 Q) (hEL : EW Z a0 EL) (w4 : (Cond.code y yb yl yr).before a0 Z = true) (w3 : (Cond.initialized y.cls).before a0 Z = true) (hfr : rm.frames + 1 ≤ R.frames) (hlo : W + (yl + 11) + rm.locals ≤ R.locals) :
    PayW l R p e below s args Z EL Sf y ln W as' h rm.cells rm.slots (fun v h' L => Q v h' ∧ Fr n0 L) := fun vm0 hZ H hSf =>
  BackS.of_freeW (bytes := yb) (maxL := yl) (ret := yr) (E := fun _ first o t L k n => k = rm.cells ∧ n = rm.slots ∧ (∃ v, o = .returned v ∧ (Q v t.heap ∧ Fr n0 L)) ∧ CHr Z EL first.vm first.heap t.vm t.heap) hM hfr hlo
    (fun m meth c A a Y hp => have hU : Z.Warmed39 A.U.vm := wtrans (s := s.setVm vm0) hZ Y.warmed
      ⟨by show (Cond.and _ .tt).before a A.U = true; rw [Cond.before_and, mv hU w4]; rfl, mv hU w4, mv hU w3, hp.2.2.1, hp.2.2.2⟩)
    (fun m meth c A a g mk Y hp => ⟨hp.1, wtrans (s := s.setVm vm0) hZ Y.warmed, hp.2.1, (CHv.at Y hZ hEL H).1, fun x hx => ⟨(CHv.at Y hZ hEL H).safe (hSf x hx).2 (hSf x hx).1, (hSf x hx).2⟩⟩) (fun _ _ _ _ _ _ _ _ _ => trivial)
    (fun _ _ _ _ ⟨v, L, h1, h2, h3, h4⟩ => ⟨L, _, _, h4, rfl, rfl, ⟨v, h1, h2⟩, h3⟩)
    (fun m meth c A a g mk v t L k n Y hp _ _ ⟨e1, e2, ⟨v', e3, e4⟩, e5⟩ => by
      cases e3; subst e1 e2
      refine ⟨L, e4, rfl, rfl, rfl, (CHv.at Y hZ hEL H).trans ?_⟩
      rw [← hp.2.1]; exact e5)
/-! ### Bw over a step -/
theorem Bw.ext (E : Ext h h') (q : Bw s Z EL Sf vm h) : Bw s Z EL Sf vm h' := by
  obtain ⟨⟨k0, q1, q2⟩, q3, q4⟩ := q
  exact ⟨⟨k0, q1, Nat.le_trans q2 E.1⟩, q3.trans (CHr.ext E q3.1), fun x hx => ⟨Safe.ext E q3.1 (q4 x hx).1, Nat.lt_of_lt_of_le (q4 x hx).2 E.1⟩⟩
theorem Bw.new {a : Addr} (ha : a = h.size) (E : Ext h h') (hl : h.size < h'.size) (q : Bw s Z EL Sf vm h) : Bw s Z EL (a :: Sf) vm h' := by
  subst ha
  have q' := q.ext E
  refine ⟨q'.1, q'.2.1, fun x hx => ?_⟩
  rcases List.mem_cons.mp hx with rfl | hx
  · exact ⟨Safe.ext E q.2.1.1 (Safe.new (Nat.le_refl _)), hl⟩
  · exact q'.2.2 x hx
theorem bwN : ∀ vm h', Ext h h' → h.size < h'.size → Bw s Z EL Sf vm h → Bw s Z EL (h.size :: Sf) vm h' := fun _ _ E hl q => Bw.new rfl E hl q
theorem Bw.keep {ws : List Addr} (K : Keep h h' ws) (hs : ∀ x ∈ ws, x ∈ Sf) (q : Bw s Z EL Sf vm h) : Bw s Z EL Sf vm h' := by
  obtain ⟨⟨k0, q1, q2⟩, q3, q4⟩ := q
  exact ⟨⟨k0, q1, Nat.le_trans q2 K.1⟩, q3.trans (CHr.keep K (fun x hx => (q4 x (hs x hx)).1) q3.1), fun x hx => ⟨Safe.keep K (fun x hx => (q4 x (hs x hx)).1) q3.1 (q4 x hx).1, Nat.lt_of_lt_of_le (q4 x hx).2 K.1⟩⟩
theorem Bw.wr {a : Addr} {sl : Nat} {v : Value} (W : Wr h h' a sl v) (hs : a ∈ Sf) (q : Bw s Z EL Sf vm h) : Bw s Z EL Sf vm h' := q.keep (Keep.of_wr W) (fun x hx => by cases List.mem_singleton.mp hx; exact hs)
theorem Bw.since {vm1 : Vm} {h1 : Heap} (q : Bw s Z EL Sf vm h) (h2 : (s.setVm vm).Since vm1 h1.size) (hg : h.size ≤ h1.size) (hC : CHr Z EL vm h vm1 h1) : Bw s Z EL Sf vm1 h1 := by
  obtain ⟨⟨k0, q1, q2⟩, q3, q4⟩ := q
  exact ⟨⟨h1.size, q1.trans h2 (Nat.le_trans q2 hg), Nat.le_refl _⟩, q3.trans hC, fun x hx => ⟨hC.safe (q4 x hx).2 (q4 x hx).1, Nat.lt_of_lt_of_le (q4 x hx).2 hg⟩⟩
/-! ### a String constant -/
theorem Go.ldcW (C : Cx p meth c bytes ml ret) {i n : Nat} {text : String} {vs : List Value} {z : Int32} (hd : decode bytes pc = .ok (.ldc i, 2)) (w : (Cond.stringLink own i text).before a0 Z = true) (wS : ∀ a ∈ Bundle.stringAtoms, a.before a0 Z = true) (hEL : EW Z a0 EL) (hmem : (own, i) ∈ EL)
    (ht : (∀ c ∈ text.toList, c.toNat < 256) ∧ text.toList.map (fun c => Value.int (Jvm.Lit.byteI c.toNat.toUInt16)) = vs) (hz : ¬ z < 0) (hl : z.toNatClampNeg = vs.length) (hn : 4 * text.toList.length ≤ n) (hbig : n ≤ 536870912) (hc : cells + 2 ≤ R.cells) (hl' : slots + (n + 4) ≤ R.slots) (hp : pc + 2 = pc')
    (K : ∀ h' a b k, Ext h h' → Exa Z h' a "java/lang/String" → Fld Z h' a "java/lang/String" "coder" "B" (.int 0) → Fld Z h' a "java/lang/String" "value" "[B" (.ref b) → Arv Z h' b k .byte z vs (.int 0) → (∀ x ∈ Sf, x ≠ a ∧ x ≠ b) → Go p l e R s m args below meth c Z own n0 (Bw s Z EL Sf) En h' (cells + 2) (slots + (n + 4)) pc' Ls (.ref a :: S)) :
    Go p l e R s m args below meth c Z own n0 (Bw s Z EL Sf) En h cells slots pc Ls S := fun vm0 T locs hZ hown hB X hF eT => by
  subst hp
  obtain ⟨⟨k0, q1, q2⟩, q3, q4⟩ := hB
  obtain ⟨a, T', h', k1, b, k, X', e', E, S1, S2, hZ', hown', E1, F1, F2, V1, -, -, hC, -, hne, st⟩ := ldcCH X C.1 hZ hown w wS eT q1 q2 hEL hmem q3.1 ht hz hl (g := mkF m pc Ls S) rfl (hb C.2.1 hd) hn hbig hc hl'
  obtain ⟨s₂, o, L, k1, k2⟩ := K h' a b k E E1 F1 F2 V1 (fun x hx => hne x (hC.safe (q4 x hx).2 (q4 x hx).1)) T'.vm T' locs hZ' hown' ⟨⟨k1, S1, S2⟩, q3.trans hC, fun x hx => ⟨hC.safe (q4 x hx).2 (q4 x hx).1, Nat.lt_of_lt_of_le (q4 x hx).2 E.1⟩⟩ X' hF e'
  exact ⟨s₂, o, L, st _ k1, k2⟩
/-! ### calls of what may intern -/
theorem Go.callSW (C : Cx p meth c bytes ml ret) {i : Nat} {y : MethodName} {yb : ByteArray} {yl : Nat} {yr : Option FieldType} {argsL rest : List Value} {W kc ks : Nat} {Q : Option Value → Heap → List Loc → Prop} {Sf' : List Addr}
    (hd : decode bytes pc = .ok (.invokestatic i, 3)) (w1 : (Cond.methodLink own i y).before a0 Z = true) (w2 : (Cond.static y).before a0 Z = true) (w3 : (Cond.initialized y.cls).before a0 Z = true) (w4 : (Cond.code y yb yl yr).before a0 Z = true) (hy : y.cls ≠ "java/lang/invoke/MethodHandle" ∧ y.cls ≠ "java/lang/invoke/VarHandle")
    (hS : S = argsL.reverse ++ rest) (hlen : ∀ sig, parseMethodDescriptor y.desc = some sig → argsL.length = sig.parameters.length) (hsz : Ls.size = ml) (hW : (rest.map fun v => v.category).sum ≤ W) (hK : PayW l R p e below s args Z EL Sf' y 3 W argsL.toArray h kc ks Q) (hSf : ∀ x ∈ Sf', x ∈ Sf)
    (hQ : ∀ v h' L, Q v h' L → Fr n0 L) (hce : cells + kc ≤ R.cells) (hsl : slots + ks ≤ R.slots) (hp : pc + 3 = pc')
    (K : ∀ v h' L, Q v h' L → h.size ≤ h'.size → Go p l e R s m args below meth c Z own n0 (Bw s Z EL Sf) En h' (cells + kc) (slots + ks) pc' Ls (v.toList ++ rest)) :
    Go p l e R s m args below meth c Z own n0 (Bw s Z EL Sf) En h cells slots pc Ls S := fun vm0 T locs hZ hown hB X hF eT => by
  subst hp hS
  obtain ⟨v, vm1, ⟨T', L', k', n'⟩, -, X', S', g', ⟨Lc, hq, l1, y1, z1, hC⟩, st⟩ := callSS X C.1 (y := y) hown (mvT (s := s.setVm vm0) hZ w1) (mvT (s := s.setVm vm0) hZ w2) (mvT (s := s.setVm vm0) hZ w3) (mvT (s := s.setVm vm0) hZ w4) hy (hK vm0 hZ hB.2.1.1 (fun x hx => hB.2.2 x (hSf x hx))) (g := mkF m pc Ls (argsL.reverse ++ rest)) rfl (by rw [C.2.2.1]; exact hsz) (argsL := argsL) (rest := rest) hlen rfl (by show 2 * 0 + _ ≤ _; omega) (hb C.2.1 hd) (fun _ _ => ⟨rfl, eT, hce, hsl⟩)
  dsimp only [Pt.U, Pt.locs, Pt.cells, Pt.slots] at X' S' g' l1 y1 z1 hC st hq
  subst l1 y1 z1 eT
  obtain ⟨s₂, o, L, k1, k2⟩ := K v T'.heap Lc hq g' T'.vm T' _ (State.Warmed39.trans (t := s.setVm vm0) hZ S'.1) (by rw [S'.1.alike.findClass]; exact hown) (hB.since S' g' hC) X' (Fr.app hF (hQ _ _ _ hq)) rfl
  exact ⟨s₂, o, L, st.trans k1, k2⟩
theorem Go.callNW (C : Cx p meth c bytes ml ret) {i : Nat} {a : Addr} {y : MethodName} {yb : ByteArray} {yl : Nat} {argsL rest : List Value} {W kc ks : Nat} {Q : Option Value → Heap → List Loc → Prop} {Sf' : List Addr}
    (hd : decode bytes pc = .ok (.invokespecial i, 3)) (hy1 : y.name = "<init>") (w1 : (Cond.methodLink own i y).before a0 Z = true) (w2 : (Cond.instanceMethod y).before a0 Z = true) (w3 : (Cond.code y yb yl none).before a0 Z = true) (hy : y.cls ≠ "java/lang/invoke/MethodHandle" ∧ y.cls ≠ "java/lang/invoke/VarHandle")
    (hS : S = argsL.reverse ++ .ref a :: rest) (hlen : ∀ sig, parseMethodDescriptor y.desc = some sig → argsL.length = sig.parameters.length) (hsz : Ls.size = ml) (hW : (rest.map fun v => v.category).sum ≤ W) (hK : PayW l R p e below s args Z EL Sf' y 3 W (.ref a :: argsL).toArray h kc ks Q) (hSf : ∀ x ∈ Sf', x ∈ Sf)
    (hQ : ∀ v h' L, Q v h' L → Fr n0 L) (hce : cells + kc ≤ R.cells) (hsl : slots + ks ≤ R.slots) (hp : pc + 3 = pc')
    (K : ∀ v h' L, Q v h' L → h.size ≤ h'.size → Go p l e R s m args below meth c Z own n0 (Bw s Z EL Sf) En h' (cells + kc) (slots + ks) pc' Ls (v.toList ++ rest)) :
    Go p l e R s m args below meth c Z own n0 (Bw s Z EL Sf) En h cells slots pc Ls S := fun vm0 T locs hZ hown hB X hF eT => by
  subst hp hS
  obtain ⟨v, vm1, ⟨T', L', k', n'⟩, -, X', S', g', ⟨Lc, hq, l1, y1, z1, hC⟩, st⟩ := X.specialBackS C.1 (y := y) hy1 hown (mvT (s := s.setVm vm0) hZ w1) (mvT (s := s.setVm vm0) hZ w2) (mvT (s := s.setVm vm0) hZ w3) hy (hK vm0 hZ hB.2.1.1 (fun x hx => hB.2.2 x (hSf x hx))) (g := mkF m pc Ls (argsL.reverse ++ .ref a :: rest)) rfl (by rw [C.2.2.1]; exact hsz) (Steps.refl _) (a := a) (argsL := argsL) (rest := rest) hlen rfl (by show 2 * 0 + _ ≤ _; omega) (hb C.2.1 hd) (fun _ _ => ⟨rfl, eT, hce, hsl⟩)
  dsimp only [Pt.U, Pt.locs, Pt.cells, Pt.slots] at X' S' g' l1 y1 z1 hC st hq
  subst l1 y1 z1 eT
  obtain ⟨s₂, o, L, k1, k2⟩ := K v T'.heap Lc hq g' T'.vm T' _ (State.Warmed39.trans (t := s.setVm vm0) hZ S'.1) (by rw [S'.1.alike.findClass]; exact hown) (hB.since S' g' hC) X' (Fr.app hF (hQ _ _ _ hq)) rfl
  exact ⟨s₂, o, L, st.trans k1, k2⟩
theorem Go.callVW (C : Cx p meth c bytes ml ret) {i : Nat} {C0 : String} {b : Addr} {y z : MethodName} {argsL rest : List Value} {W kc ks : Nat} {Q : Option Value → Heap → List Loc → Prop} {Sf' : List Addr}
    (hd : decode bytes pc = .ok (.invokevirtual i, 3)) (w1 : (Cond.methodLink own i y).before a0 Z = true) (w2 : (Cond.declares y).before a0 Z = true) (w3 : (Cond.selects C0 y z).before a0 Z = true) (w4 : (Cond.instanceMethod z).before a0 Z = true) (hnf : ∀ st : State, Z.Warmed39 st.vm → NotFace st y) (hy : y.cls ≠ "java/lang/invoke/MethodHandle" ∧ y.cls ≠ "java/lang/invoke/VarHandle") (E : Exa Z h b C0)
    (hS : S = argsL.reverse ++ .ref b :: rest) (hlen : ∀ sig, parseMethodDescriptor y.desc = some sig → argsL.length = sig.parameters.length) (hsz : Ls.size = ml) (hW : (rest.map fun v => v.category).sum ≤ W) (hK : PayW l R p e below s args Z EL Sf' z 3 W (.ref b :: argsL).toArray h kc ks Q) (hSf : ∀ x ∈ Sf', x ∈ Sf)
    (hQ : ∀ v h' L, Q v h' L → Fr n0 L) (hce : cells + kc ≤ R.cells) (hsl : slots + ks ≤ R.slots) (hp : pc + 3 = pc')
    (K : ∀ v h' L, Q v h' L → h.size ≤ h'.size → Go p l e R s m args below meth c Z own n0 (Bw s Z EL Sf) En h' (cells + kc) (slots + ks) pc' Ls (v.toList ++ rest)) :
    Go p l e R s m args below meth c Z own n0 (Bw s Z EL Sf) En h cells slots pc Ls S := fun vm0 T locs hZ hown hB X hF eT => by
  subst hp hS
  obtain ⟨cq, kq, qa, qb, qc⟩ := isOf (s := s.setVm vm0) hZ eT E
  obtain ⟨v, vm1, ⟨T', L', k', n'⟩, -, X', S', g', ⟨Lc, hq, l1, y1, z1, hC⟩, st⟩ := X.virtualBackS C.1 (y := y) (z := z) hown (mvT (s := s.setVm vm0) hZ w1) (mvT (s := s.setVm vm0) hZ w2) (hnf (s.setVm vm0) hZ) (mvT (s := s.setVm vm0) hZ w3) (mvT (s := s.setVm vm0) hZ w4) hy (hK vm0 hZ hB.2.1.1 (fun x hx => hB.2.2 x (hSf x hx))) qa qc (g := mkF m pc Ls (argsL.reverse ++ .ref b :: rest)) rfl (by rw [C.2.2.1]; exact hsz) (Steps.refl _) (argsL := argsL) (rest := rest) hlen rfl (by show 2 * 0 + _ ≤ _; omega) (hb C.2.1 hd) (fun _ _ => ⟨rfl, eT, hce, hsl⟩)
  dsimp only [Pt.U, Pt.locs, Pt.cells, Pt.slots] at X' S' g' l1 y1 z1 hC st hq
  subst l1 y1 z1 eT
  obtain ⟨s₂, o, L, k1, k2⟩ := K v T'.heap Lc hq g' T'.vm T' _ (State.Warmed39.trans (t := s.setVm vm0) hZ S'.1) (by rw [S'.1.alike.findClass]; exact hown) (hB.since S' g' hC) X' (Fr.app hF (hQ _ _ _ hq)) rfl
  exact ⟨s₂, o, L, st.trans k1, k2⟩
/-! ### the ends of a walk that may intern -/
theorem retW (C : Cx p meth c bytes ml ret) {v : Option Value} {Q : Option Value → Heap → Prop} (hv : ret = none → v = none) (hc : cells ≤ R.cells) (hl : slots ≤ R.slots) (hQ : Q v h)
    (st : ∀ (T : State) (locs : List Loc) (vm0 : Vm) (fs : List Frame), Stand p l e R (s.setVm vm0) m args below meth c T locs cells slots → (∀ (f : JFrame) (acts : List Action), f.method = m → f.locked = none → f.entered = [] → (doReturn e (T.setTop f) acts v).1 = T.setFrames fs) → Steps p.tables e below (T.setTop (mkF m pc Ls S)) (T.setFrames fs)) (hEL : EW Z a0 EL) :
    Go p l e R s m args below meth c Z own n0 (Bw s Z EL Sf) (EnW s R n0 Z EL Q) h cells slots pc Ls S := fun vm0 T locs hZ hown hB X hF eT => by
  obtain ⟨⟨k0, q1, q2⟩, q3, q4⟩ := hB
  obtain ⟨fs, hr, hrun, hended, hREW⟩ := X.leaveW q1 (by rw [eT]; exact q2) (v := v) (fun q => hv (C.2.2.2.1 ▸ q)) C.2.2.2.2
  obtain ⟨g1, g2, g3, g4⟩ := hREW
  subst eT
  exact ⟨_, _, locs, st T locs vm0 fs X hr, hrun, hended, v, rfl, ⟨hQ, hF⟩, q3.trans (show CHr Z EL vm0 T.heap T.vm T.heap from CHv.at X hZ hEL q3.1), g1, g2, g3, g4.mono hc hl⟩
theorem Go.retIW (C : Cx p meth c bytes ml (some .int)) (hEL : EW Z a0 EL) {z : Int32} {Q : Option Value → Heap → Prop} (hd : decode bytes pc = .ok (.ireturn, 1)) (hc : cells ≤ R.cells) (hl : slots ≤ R.slots) (hQ : Q (some (.int z)) h) : Go p l e R s m args below meth c Z own n0 (Bw s Z EL Sf) (EnW s R n0 Z EL Q) h cells slots pc Ls (.int z :: S) :=
  retW C (fun q => nomatch q) hc hl hQ (fun T locs vm0 fs X hr => Jvm.RoadKit.retOut X C.1 C.2.2.2.1 rfl (Or.inl ⟨rfl, Or.inl rfl, _, rfl⟩) (hb C.2.1 hd) hr) hEL
theorem Go.retNW {t : FieldType} (C : Cx p meth c bytes ml (some t)) (hEL : EW Z a0 EL) (ht : t = .boolean ∨ t = .byte ∨ t = .char ∨ t = .short) {z : Int32} {Q : Option Value → Heap → Prop} (hd : decode bytes pc = .ok (.ireturn, 1)) (hc : cells ≤ R.cells) (hl : slots ≤ R.slots) (hQ : Q (some (.int (nar t z))) h) : Go p l e R s m args below meth c Z own n0 (Bw s Z EL Sf) (EnW s R n0 Z EL Q) h cells slots pc Ls (.int z :: S) :=
  retW C (fun q => nomatch q) hc hl hQ (fun T locs vm0 fs X hr => Jvm.RoadKit.retN X C.1 C.2.2.2.1 ht (hb C.2.1 hd) hr) hEL
theorem Go.retAW {t : FieldType} (C : Cx p meth c bytes ml (some t)) (hEL : EW Z a0 EL) (ht : t.isReference = true) {v : Value} {Q : Option Value → Heap → Prop} (hd : decode bytes pc = .ok (.areturn, 1)) (hv : v.isRef = true) (hc : cells ≤ R.cells) (hl : slots ≤ R.slots) (hQ : Q (some v) h) : Go p l e R s m args below meth c Z own n0 (Bw s Z EL Sf) (EnW s R n0 Z EL Q) h cells slots pc Ls (v :: S) :=
  retW C (fun q => nomatch q) hc hl hQ (fun T locs vm0 fs X hr => Jvm.RoadKit.retOut X C.1 C.2.2.2.1 (by cases v <;> simp [Value.isRef] at hv <;> cases t <;> simp [FieldType.isReference] at ht <;> rfl) (Or.inr (Or.inr (Or.inr (Or.inr ⟨rfl, ht, hv⟩)))) (hb C.2.1 hd) hr) hEL
theorem Go.retLW (C : Cx p meth c bytes ml (some .long)) (hEL : EW Z a0 EL) {z : Int64} {Q : Option Value → Heap → Prop} (hd : decode bytes pc = .ok (.lreturn, 1)) (hc : cells ≤ R.cells) (hl : slots ≤ R.slots) (hQ : Q (some (.long z)) h) : Go p l e R s m args below meth c Z own n0 (Bw s Z EL Sf) (EnW s R n0 Z EL Q) h cells slots pc Ls (.long z :: S) :=
  retW C (fun q => nomatch q) hc hl hQ (fun T locs vm0 fs X hr => Jvm.RoadKit.retOut X C.1 C.2.2.2.1 rfl (Or.inr (Or.inl ⟨rfl, rfl, _, rfl⟩)) (hb C.2.1 hd) hr) hEL
theorem Go.retVW (C : Cx p meth c bytes ml none) (hEL : EW Z a0 EL) {Q : Option Value → Heap → Prop} (hd : decode bytes pc = .ok (.return_, 1)) (hc : cells ≤ R.cells) (hl : slots ≤ R.slots) (hQ : Q none h) : Go p l e R s m args below meth c Z own n0 (Bw s Z EL Sf) (EnW s R n0 Z EL Q) h cells slots pc Ls [] :=
  retW C (fun _ => rfl) hc hl hQ (fun T locs vm0 fs X hr => X.returnOut C.1 C.2.2.2.1 (hb C.2.1 hd) hr) hEL
end Wide
end Jvm.Own

/- laws to paste: Road.backV, Road.lenW, Road.chN, Road.eqW, Road.codOf (cut by pick.py; bodies as the Statement names them) -/
namespace Jvm.Pilot.@@N@@
namespace StrChars
open Jvm Sem ClassFile Op Lib Jvm.Stand Jvm.Free.XT Jvm.Free.ALB Jvm.Free.JM Jvm.Free
open Jvm.Lib.Cold (StaticIs)
/-- a char array whose places are chars -/
def Ch (a : Addr) (A : Cell) (U : State) : Prop := Arr .char a A U ∧ Typed .char A
theorem Ch.mv {a : Addr} {A : Cell} {U U' : State} (h : Ch a A U) (hal : U.vm.Alike U'.vm) (hh : U'.heap = U.heap) : Ch a A U' := ⟨h.1.mv hal hh, h.2⟩
theorem Ch.keep {a : Addr} {A : Cell} {U U' : State} (h : Ch a A U) (hal : U.vm.Alike U'.vm) (hk : U'.heap[a]? = some A) : Ch a A U' := ⟨h.1.keep hal hk, h.2⟩
/-- what place i of a char[]'s cell holds -/
def cv (A : Cell) (i : Nat) : Int32 := match A.slots[i]? with | some (.int x) => x | _ => 0
theorem Ch.get {a : Addr} {A : Cell} {U : State} (h : Ch a A U) {i : Nat} (hi : i < A.slots.size) : A.slots[i]? = some (.int (cv A i)) := by
  have e := Array.getElem?_eq_getElem hi
  have f := h.2 i _ e
  unfold cv; rw [e]
  generalize A.slots[i] = v at f
  cases v <;> simp [fits] at f ⊢
/-- the byte that i2b leaves of a char -/
def lo8 (x : Int32) : Int32 := x.toInt8.toInt32
theorem fits_lo8 (y : Int32) : fits .byte (.int (lo8 y)) = true := by
  have h1 := y.toInt8.le_toInt
  have h2 := y.toInt8.toInt_lt
  simp only [lo8, fits, Bool.and_eq_true, decide_eq_true_eq, Int32.le_iff_toInt_le, Int8.toInt_toInt32, show (-128 : Int32).toInt = -128 from by decide, show (127 : Int32).toInt = 127 from by decide]
  omega
/-- A' is A but that each place j of lo .. hi - 1 holds f j -/
def Laid (A A' : Cell) (lo hi : Nat) (f : Nat → Value) : Prop := A'.cls = A.cls ∧ A'.vm = A.vm ∧ A'.slots.size = A.slots.size ∧ ∀ i, A'.slots[i]? = if lo ≤ i ∧ i < hi then some (f i) else A.slots[i]?
theorem Laid.zero (A : Cell) (lo : Nat) (f : Nat → Value) : Laid A A lo (lo + 0) f := ⟨rfl, rfl, rfl, fun i => by rw [if_neg (by omega)]⟩
theorem Laid.step {A Ak : Cell} {lo k : Nat} {f : Nat → Value} {v : Value} (h : Laid A Ak lo k f) (hlo : lo ≤ k) (hk : k < Ak.slots.size) (hv : v = f k) : Laid A (Ak.setSlot k v) lo (k + 1) f := by
  refine ⟨h.1, h.2.1, by simpa [Cell.setSlot] using h.2.2.1, fun i => ?_⟩
  by_cases e : k = i
  · subst e; rw [Cell.slots_setSlot_self v hk, if_pos (by omega), hv]
  · rw [Cell.slots_setSlot_ne v e, h.2.2.2 i]
    by_cases q : lo ≤ i ∧ i < k
    · rw [if_pos q, if_pos (by omega)]
    · rw [if_neg q, if_neg (by omega)]
def U16 : String := "java/lang/StringUTF16"
namespace Cmp5
def yN : MethodName := ⟨"java/lang/StringUTF16", "compress", "([CI[BII)I"⟩
abbrev yB : ByteArray := jdk_52_method_21_code
theorem d0 : decode yB 0 = .ok (.iconst 0, 1) := by decide +kernel
theorem d1 : decode yB 1 = .ok (.istore 5, 2) := by decide +kernel
theorem d3 : decode yB 3 = .ok (.iload 5, 2) := by decide +kernel
theorem d5 : decode yB 5 = .ok (.iload 4, 2) := by decide +kernel
theorem d7 : decode yB 7 = .ok (.if_icmp (.ge) 37, 3) := by decide +kernel
theorem d10 : decode yB 10 = .ok (.aload_n 0, 1) := by decide +kernel
theorem d11 : decode yB 11 = .ok (.iload_n 1, 1) := by decide +kernel
theorem d12 : decode yB 12 = .ok (.caload, 1) := by decide +kernel
theorem d13 : decode yB 13 = .ok (.istore 6, 2) := by decide +kernel
theorem d15 : decode yB 15 = .ok (.iload 6, 2) := by decide +kernel
theorem d17 : decode yB 17 = .ok (.sipush 255, 3) := by decide +kernel
theorem d20 : decode yB 20 = .ok (.if_icmp (.le) 6, 3) := by decide +kernel
theorem d26 : decode yB 26 = .ok (.aload_n 2, 1) := by decide +kernel
theorem d27 : decode yB 27 = .ok (.iload_n 3, 1) := by decide +kernel
theorem d28 : decode yB 28 = .ok (.iload 6, 2) := by decide +kernel
theorem d30 : decode yB 30 = .ok (.i2b, 1) := by decide +kernel
theorem d31 : decode yB 31 = .ok (.bastore, 1) := by decide +kernel
theorem d32 : decode yB 32 = .ok (.iinc 1 1, 3) := by decide +kernel
theorem d35 : decode yB 35 = .ok (.iinc 3 1, 3) := by decide +kernel
theorem d38 : decode yB 38 = .ok (.iinc 5 1, 3) := by decide +kernel
theorem d41 : decode yB 41 = .ok (.goto (-38), 3) := by decide +kernel
theorem d44 : decode yB 44 = .ok (.iload 4, 2) := by decide +kernel
theorem d46 : decode yB 46 = .ok (.ireturn, 1) := by decide +kernel
def site : List Cond := []
def tab : Cond := tabOf yN yB 7 (some .int) site
def P (b : Addr) (A : Cell) (d : Addr) (B : Cell) (o q len : Nat) (args : Array Value) (s : State) : Prop := args = #[.ref b, .int (Int32.ofNat o), .ref d, .int (Int32.ofNat q), .int (Int32.ofNat len)] ∧ Ch b A s ∧ Arr .byte d B s ∧ b ≠ d ∧ o + len ≤ A.slots.size ∧ q + len ≤ B.slots.size ∧ ∀ i, i < len → ¬ 255 < cv A (o + i)
def E (b : Addr) (A : Cell) (d : Addr) (B : Cell) (o q len : Nat) (r : Option Value) (s u : State) : Prop := r = some (.int (Int32.ofNat len)) ∧ ∃ B', Put d B' s u ∧ Laid B B' q (q + len) (fun j => Value.int (lo8 (cv A (o + (j - q)))))
/-- no char of the range above 255: len; the places written hold each char's low byte -/
theorem law (l : Launch) (b : Addr) (A : Cell) (d : Addr) (B : Cell) (o q len : Nat) : Law l yN 5 5 0 0 yB 7 (some .int) site (P b A d B o q len) (E b A d B o q len) (copyLocs d q len) 0 0 := by
  refine Law.of_walk (plainFor_of_name (by decide +kernel)) (by decide +kernel) (by decide +kernel) (by decide) (fun _ _ h => by rw [h.1]; rfl) (fun _ U U' hal hh h => ⟨h.1, h.2.1.mv hal hh, h.2.2.1.mv hal hh, h.2.2.2⟩) (fun r U U' V V' h1 hal h2 h => ⟨h.1, h.2.elim fun B' q => ⟨B', q.1.mv h1 h2, q.2⟩⟩) ?_
  intro p e s m args below meth c s₁ X0 hexec hbytes hml hret hlk hnm hown hh0 W hP
  obtain ⟨rfl, hA, hB, hne, l1, l2, hp⟩ := hP
  have c1 : Steps p.tables e below (s₁.setTop (entryFrame m #[.ref b, .int (Int32.ofNat o), .ref d, .int (Int32.ofNat q), .int (Int32.ofNat len)] 7)) (s₁.setTop (mkF m 0 #[.val (.ref b), .val (.int (Int32.ofNat o)), .val (.ref d), .val (.int (Int32.ofNat q)), .val (.int (Int32.ofNat len)), .unset, .unset] [])) := entry rfl
  have hA0 := hA.1.mv X0.warmed.alike hh0
  have hB0 := hB.mv X0.warmed.alike hh0
  have a31 := hA.1.2.2.2
  have c2 : Steps p.tables e below (s₁.setTop (entryFrame m #[.ref b, .int (Int32.ofNat o), .ref d, .int (Int32.ofNat q), .int (Int32.ofNat len)] 7)) (s₁.setTop (mkF m 3 #[.val (.ref b), .val (.int (Int32.ofNat o)), .val (.ref d), .val (.int (Int32.ofNat q)), .val (.int (Int32.ofNat len)), .val (.int 0), .unset] [])) := c1.trans (by
    refine iconstV X0.here hexec rfl 0 (hb hbytes d0) (by decide) ?_
    refine XS.istore X0.here hexec rfl (hb hbytes d1) rfl rfl ?_
    exact Steps.refl _)
  have loop : ∀ (r i : Nat), i + r = len → ∀ (z : Slot), (z = .unset ∨ ∃ w, z = .val w ∧ w.category = 1) → ∀ (Tl : State) (Bk : Cell), Stand p l e { frames := 0, locals := 0, cells := 0, slots := 0 } s m #[.ref b, .int (Int32.ofNat o), .ref d, .int (Int32.ofNat q), .int (Int32.ofNat len)] below meth c Tl ([] ++ copyLocs d q i) 0 0 → Put d Bk s₁ Tl → Laid B Bk q (q + i) (fun j => Value.int (lo8 (cv A (o + (j - q))))) →
      Steps p.tables e below (s₁.setTop (entryFrame m #[.ref b, .int (Int32.ofNat o), .ref d, .int (Int32.ofNat q), .int (Int32.ofNat len)] 7)) (Tl.setTop (mkF m 3 #[.val (.ref b), .val (.int (Int32.ofNat (o + i))), .val (.ref d), .val (.int (Int32.ofNat (q + i))), .val (.int (Int32.ofNat len)), .val (.int (Int32.ofNat i)), z] [])) → ∃ (T' : State) (B' : Cell) (z' : Slot), Stand p l e { frames := 0, locals := 0, cells := 0, slots := 0 } s m #[.ref b, .int (Int32.ofNat o), .ref d, .int (Int32.ofNat q), .int (Int32.ofNat len)] below meth c T' ([] ++ copyLocs d q len) 0 0 ∧ Put d B' s₁ T' ∧ Laid B B' q (q + len) (fun j => Value.int (lo8 (cv A (o + (j - q))))) ∧
      Steps p.tables e below (s₁.setTop (entryFrame m #[.ref b, .int (Int32.ofNat o), .ref d, .int (Int32.ofNat q), .int (Int32.ofNat len)] 7)) (T'.setTop (mkF m 3 #[.val (.ref b), .val (.int (Int32.ofNat (o + len))), .val (.ref d), .val (.int (Int32.ofNat (q + len))), .val (.int (Int32.ofNat len)), .val (.int (Int32.ofNat len)), z'] [])) := by
    intro r
    induction r with
    | zero =>
      intro i hi z hz Tl Bk Xl pl fl cl
      have hil : i = len := by omega
      rw [hil] at Xl fl cl
      exact ⟨Tl, Bk, z, Xl, pl, fl, cl⟩
    | succ r ih =>
      intro i hi z hz Tl Bk Xl pl fl cl
      have all := X0.warmed.alike.symm.trans Xl.warmed.alike
      have hAl := hA0.keep all (pl.other hne hA0.1)
      have hBk := hB0.like all pl.1 fl.1 fl.2.1 fl.2.2.1
      have hlt : q + i < Bk.slots.size := by rw [fl.2.2.1]; omega
      have c3 : Steps p.tables e below (s₁.setTop (entryFrame m #[.ref b, .int (Int32.ofNat o), .ref d, .int (Int32.ofNat q), .int (Int32.ofNat len)] 7)) (Tl.setTop (mkF m 12 #[.val (.ref b), .val (.int (Int32.ofNat (o + i))), .val (.ref d), .val (.int (Int32.ofNat (q + i))), .val (.int (Int32.ofNat len)), .val (.int (Int32.ofNat i)), z] [.int (Int32.ofNat (o + i)), .ref b])) := cl.trans (by
        refine XS.iload Xl.here hexec rfl (hb hbytes d3) rfl ?_
        refine XS.iload Xl.here hexec rfl (hb hbytes d5) rfl ?_
        refine XS.icmpNo Xl.here hexec rfl (hb hbytes d7) rfl (ii_ge_f (lt32 (by omega) (by omega))) ?_
        refine XS.aloadN Xl.here hexec rfl (hb hbytes d10) rfl rfl ?_
        refine XS.iloadN Xl.here hexec rfl (hb hbytes d11) rfl ?_
        exact Steps.refl _)
      have c4 : Steps p.tables e below (s₁.setTop (entryFrame m #[.ref b, .int (Int32.ofNat o), .ref d, .int (Int32.ofNat q), .int (Int32.ofNat len)] 7)) (Tl.setTop (mkF m 13 #[.val (.ref b), .val (.int (Int32.ofNat (o + i))), .val (.ref d), .val (.int (Int32.ofNat (q + i))), .val (.int (Int32.ofNat len)), .val (.int (Int32.ofNat i)), z] [.int (cv A (o + i))])) := c3.trans (by
        refine Xl.aget hexec hAl rfl (hA.get (i := o + i) (by omega)) rfl rfl (hb hbytes d12) ?_
        exact Steps.refl _)
      have c5 : Steps p.tables e below (s₁.setTop (entryFrame m #[.ref b, .int (Int32.ofNat o), .ref d, .int (Int32.ofNat q), .int (Int32.ofNat len)] 7)) (Tl.setTop (mkF m 15 #[.val (.ref b), .val (.int (Int32.ofNat (o + i))), .val (.ref d), .val (.int (Int32.ofNat (q + i))), .val (.int (Int32.ofNat len)), .val (.int (Int32.ofNat i)), .val (.int (cv A (o + i)))] [])) := c4.trans (by
        refine XS.istoreS Xl.here hexec rfl (hb hbytes d13) rfl rfl hz ?_
        exact Steps.refl _)
      have c6 : Steps p.tables e below (s₁.setTop (entryFrame m #[.ref b, .int (Int32.ofNat o), .ref d, .int (Int32.ofNat q), .int (Int32.ofNat len)] 7)) (Tl.setTop (mkF m 31 #[.val (.ref b), .val (.int (Int32.ofNat (o + i))), .val (.ref d), .val (.int (Int32.ofNat (q + i))), .val (.int (Int32.ofNat len)), .val (.int (Int32.ofNat i)), .val (.int (cv A (o + i)))] [.int (lo8 (cv A (o + i))), .int (Int32.ofNat (q + i)), .ref d])) := c5.trans (by
        refine XS.iload Xl.here hexec rfl (hb hbytes d15) rfl ?_
        refine sipushV Xl.here hexec rfl 255 (hb hbytes d17) (by decide) ?_
        refine XS.icmpYes Xl.here hexec rfl (pc0 := 20) rfl (hb hbytes d20) rfl (ii_le_t (hp i (by omega))) (by decide) rfl ?_
        refine XS.aloadN Xl.here hexec rfl (hb hbytes d26) rfl rfl ?_
        refine XS.iloadN Xl.here hexec rfl (hb hbytes d27) rfl ?_
        refine XS.iload Xl.here hexec rfl (hb hbytes d28) rfl ?_
        refine i2b Xl.here hexec rfl (hb hbytes d30) rfl ?_
        exact Steps.refl _)
      obtain ⟨T7, X7, p7, st7⟩ := Xl.aput hexec hBk rfl hlt rfl (fits_lo8 (cv A (o + i))) (g := (mkF m 31 #[.val (.ref b), .val (.int (Int32.ofNat (o + i))), .val (.ref d), .val (.int (Int32.ofNat (q + i))), .val (.int (Int32.ofNat len)), .val (.int (Int32.ofNat i)), .val (.int (cv A (o + i)))] [.int (lo8 (cv A (o + i))), .int (Int32.ofNat (q + i)), .ref d])) rfl (rest := []) rfl (hb hbytes d31)
      have c8 : Steps p.tables e below (s₁.setTop (entryFrame m #[.ref b, .int (Int32.ofNat o), .ref d, .int (Int32.ofNat q), .int (Int32.ofNat len)] 7)) (T7.setTop (mkF m 32 #[.val (.ref b), .val (.int (Int32.ofNat (o + i))), .val (.ref d), .val (.int (Int32.ofNat (q + i))), .val (.int (Int32.ofNat len)), .val (.int (Int32.ofNat i)), .val (.int (cv A (o + i)))] [])) := c6.trans (st7 _ (Steps.refl _))
      have c9 : Steps p.tables e below (s₁.setTop (entryFrame m #[.ref b, .int (Int32.ofNat o), .ref d, .int (Int32.ofNat q), .int (Int32.ofNat len)] 7)) (T7.setTop (mkF m 3 #[.val (.ref b), .val (.int (Int32.ofNat (o + i) + 1)), .val (.ref d), .val (.int (Int32.ofNat (q + i) + 1)), .val (.int (Int32.ofNat len)), .val (.int (Int32.ofNat i + 1)), .val (.int (cv A (o + i)))] [])) := c8.trans (by
        refine iincV X7.here hexec rfl 1 (hb hbytes d32) (by decide) rfl rfl ?_
        refine iincV X7.here hexec rfl 1 (hb hbytes d35) (by decide) rfl rfl ?_
        refine iincV X7.here hexec rfl 1 (hb hbytes d38) (by decide) rfl rfl ?_
        refine XS.goto X7.here hexec rfl (pc0 := 41) rfl (hb hbytes d41) (by decide) rfl ?_
        exact Steps.refl _)
      have c10 : Steps p.tables e below (s₁.setTop (entryFrame m #[.ref b, .int (Int32.ofNat o), .ref d, .int (Int32.ofNat q), .int (Int32.ofNat len)] 7)) (T7.setTop (mkF m 3 #[.val (.ref b), .val (.int (Int32.ofNat (o + (i + 1)))), .val (.ref d), .val (.int (Int32.ofNat (q + (i + 1)))), .val (.int (Int32.ofNat len)), .val (.int (Int32.ofNat (i + 1))), .val (.int (cv A (o + i)))] [])) := by
        have := c9
        rw [succ32, succ32, succ32] at this
        exact this
      exact ih (i + 1) (by omega) _ (Or.inr ⟨_, rfl, rfl⟩) T7 _ (by rw [copyLocs_step, ← List.append_assoc]; exact X7) (pl.trans p7) (fl.step (by omega) hlt (by simp)) c10
  obtain ⟨T9, B9, z9, X9, p9, f9, g9⟩ := loop len 0 (by omega) .unset (Or.inl rfl) s₁ B (by simpa [copyLocs] using X0) ⟨hB0.1, fun _ _ => rfl, rfl⟩ (Laid.zero _ _ _) c2
  have c11 : Steps p.tables e below (s₁.setTop (entryFrame m #[.ref b, .int (Int32.ofNat o), .ref d, .int (Int32.ofNat q), .int (Int32.ofNat len)] 7)) (T9.setTop (mkF m 46 #[.val (.ref b), .val (.int (Int32.ofNat (o + len))), .val (.ref d), .val (.int (Int32.ofNat (q + len))), .val (.int (Int32.ofNat len)), .val (.int (Int32.ofNat len)), z9] [.int (Int32.ofNat len)])) := g9.trans (by
    refine XS.iload X9.here hexec rfl (hb hbytes d3) rfl ?_
    refine XS.iload X9.here hexec rfl (hb hbytes d5) rfl ?_
    refine XS.icmpYes X9.here hexec rfl (pc0 := 7) rfl (hb hbytes d7) rfl (ii_ge_t (nlt32 (by omega) (Nat.le_refl _))) (by decide) rfl ?_
    refine XS.iload X9.here hexec rfl (hb hbytes d44) rfl ?_
    exact Steps.refl _)
  exact ⟨T9, some (.int (Int32.ofNat len)), _, _, _, X9, by simp, rfl, rfl, (fun h => by cases h), ⟨rfl, B9, p9.from hh0, f9⟩, fun fs hl => c11.trans (X9.ireturnOut hexec hret rfl (Or.inl rfl) (hb hbytes d46) hl)⟩
end Cmp5
namespace Cmp3
def yN : MethodName := ⟨"java/lang/StringUTF16", "compress", "([CII)[B"⟩
abbrev yB : ByteArray := jdk_52_method_16_code
theorem d0 : decode yB 0 = .ok (.iload_n 2, 1) := by decide +kernel
theorem d1 : decode yB 1 = .ok (.newarray .byte, 2) := by decide +kernel
theorem d3 : decode yB 3 = .ok (.astore_n 3, 1) := by decide +kernel
theorem d4 : decode yB 4 = .ok (.aload_n 0, 1) := by decide +kernel
theorem d5 : decode yB 5 = .ok (.iload_n 1, 1) := by decide +kernel
theorem d6 : decode yB 6 = .ok (.aload_n 3, 1) := by decide +kernel
theorem d7 : decode yB 7 = .ok (.iconst 0, 1) := by decide +kernel
theorem d8 : decode yB 8 = .ok (.iload_n 2, 1) := by decide +kernel
theorem d9 : decode yB 9 = .ok (.invokestatic 115, 3) := by decide +kernel
theorem d12 : decode yB 12 = .ok (.istore 4, 2) := by decide +kernel
theorem d14 : decode yB 14 = .ok (.iload 4, 2) := by decide +kernel
theorem d16 : decode yB 16 = .ok (.iload_n 2, 1) := by decide +kernel
theorem d17 : decode yB 17 = .ok (.if_icmp (.eq) 40, 3) := by decide +kernel
theorem d57 : decode yB 57 = .ok (.aload_n 3, 1) := by decide +kernel
theorem d58 : decode yB 58 = .ok (.areturn, 1) := by decide +kernel
def site : List Cond := [.arrayClass .byte, Cmp5.tab] ++ staticW U16 115 Cmp5.yN
def tab : Cond := tabOf yN yB 6 (some (.array .byte)) site
def P (b : Addr) (A : Cell) (o len : Nat) (args : Array Value) (s : State) : Prop := args = #[.ref b, .int (Int32.ofNat o), .int (Int32.ofNat len)] ∧ Ch b A s ∧ o + len ≤ A.slots.size ∧ len ≤ 536870912 ∧ ∀ i, i < len → ¬ 255 < cv A (o + i)
def E (b : Addr) (A : Cell) (o len : Nat) (r : Option Value) (s u : State) : Prop := NewArr .byte "[B" len (fun j => .int (lo8 (cv A (o + j)))) r s u ∧ u.heap.size = s.heap.size + 1
/-- no char of the range above 255: a new byte[] of their low bytes -/
theorem law (l : Launch) (b : Addr) (A : Cell) (o len : Nat) : Law l yN 3 3 1 18 yB 6 (some (.array .byte)) site (P b A o len) (E b A o len) [] 1 len := by
  refine Law.of_walk (plainFor_of_name (by decide +kernel)) (by decide +kernel) (by decide +kernel) (by decide) (fun _ _ h => by rw [h.1]; rfl) (fun _ U U' hal hh h => ⟨h.1, h.2.1.mv hal hh, h.2.2⟩) (fun r U U' V V' h1 hal h2 h => ⟨NewArr.mv r U U' V V' h1 hal h2 h.1, by rw [h1, h2]; exact h.2⟩) ?_
  intro p e s m args below meth c s₁ X0 hexec hbytes hml hret hlk hnm hown hh0 W hP
  obtain ⟨rfl, hA, l1, l2, hp⟩ := hP
  have a31 := hA.1.2.2.2
  have c1 : Steps p.tables e below (s₁.setTop (entryFrame m #[.ref b, .int (Int32.ofNat o), .int (Int32.ofNat len)] 6)) (s₁.setTop (mkF m 0 #[.val (.ref b), .val (.int (Int32.ofNat o)), .val (.int (Int32.ofNat len)), .unset, .unset, .unset] [])) := entry rfl
  have c2 : Steps p.tables e below (s₁.setTop (entryFrame m #[.ref b, .int (Int32.ofNat o), .int (Int32.ofNat len)] 6)) (s₁.setTop (mkF m 1 #[.val (.ref b), .val (.int (Int32.ofNat o)), .val (.int (Int32.ofNat len)), .unset, .unset, .unset] [.int (Int32.ofNat len)])) := c1.trans (by
    refine XS.iloadN X0.here hexec rfl (hb hbytes d0) rfl ?_
    exact Steps.refl _)
  obtain ⟨T3, B3, X3, ba3, bs3, bv3, bh3, bf3, st3⟩ := X0.anew hexec (atype := .byte) (wk W (.arrayClass .byte)) rfl (by show len * 1 ≤ _; omega) (by omega) (g := (mkF m 1 #[.val (.ref b), .val (.int (Int32.ofNat o)), .val (.int (Int32.ofNat len)), .unset, .unset, .unset] [.int (Int32.ofNat len)])) rfl (hb hbytes d1) (rest := []) rfl (Nat.le_refl _) (by show 0 + len ≤ len; omega)
  rw [hh0] at ba3 st3
  have kp3 : XT.Kept s T3 := (XT.Kept.of_eq hh0).push bh3
  have hA3 := hA.keep X3.warmed.alike (kp3 _ _ hA.1.1)
  have hne : b ≠ s.heap.size := hA.1.ne
  have c4 : Steps p.tables e below (s₁.setTop (entryFrame m #[.ref b, .int (Int32.ofNat o), .int (Int32.ofNat len)] 6)) (T3.setTop (mkF m 3 #[.val (.ref b), .val (.int (Int32.ofNat o)), .val (.int (Int32.ofNat len)), .unset, .unset, .unset] [.ref s.heap.size])) := c2.trans (st3 _ (Steps.refl _))
  have c5 : Steps p.tables e below (s₁.setTop (entryFrame m #[.ref b, .int (Int32.ofNat o), .int (Int32.ofNat len)] 6)) (T3.setTop (mkF m 9 #[.val (.ref b), .val (.int (Int32.ofNat o)), .val (.int (Int32.ofNat len)), .val (.ref s.heap.size), .unset, .unset] [.int (Int32.ofNat len), .int 0, .ref s.heap.size, .int (Int32.ofNat o), .ref b])) := c4.trans (by
    refine XS.astoreN X3.here hexec rfl (hb hbytes d3) rfl rfl rfl ?_
    refine XS.aloadN X3.here hexec rfl (hb hbytes d4) rfl rfl ?_
    refine XS.iloadN X3.here hexec rfl (hb hbytes d5) rfl ?_
    refine XS.aloadN X3.here hexec rfl (hb hbytes d6) rfl rfl ?_
    refine iconstV X3.here hexec rfl 0 (hb hbytes d7) (by decide) ?_
    refine XS.iloadN X3.here hexec rfl (hb hbytes d8) rfl ?_
    exact Steps.refl _)
  obtain ⟨v6, T6, X6, E6, g6⟩ := X3.callS hexec (Cmp5.law l b A s.heap.size B3 o 0 len) hown (wks W (staticW U16 115 Cmp5.yN)) (wk W Cmp5.tab) (W := 0) (Nat.le_of_ble_eq_true rfl) (Nat.le_of_ble_eq_true rfl) (Nat.le_refl _) (by show 0 + len + 0 ≤ len; omega) (g := (mkF m 9 #[.val (.ref b), .val (.int (Int32.ofNat o)), .val (.int (Int32.ofNat len)), .val (.ref s.heap.size), .unset, .unset] [.int (Int32.ofNat len), .int (Int32.ofNat 0), .ref s.heap.size, .int (Int32.ofNat o), .ref b])) rfl (by rw [hml]; rfl) c5 (argsL := [.ref b, .int (Int32.ofNat o), .ref s.heap.size, .int (Int32.ofNat 0), .int (Int32.ofNat len)]) (rest := []) rfl rfl (by show 2 * 0 + 0 ≤ _; decide) (hb hbytes d9) (⟨rfl, hA3, ba3, hne, l1, by rw [bs3]; simp, hp⟩)
  obtain ⟨rfl, B6, p6, f6⟩ := E6
  have c7 : Steps p.tables e below (s₁.setTop (entryFrame m #[.ref b, .int (Int32.ofNat o), .int (Int32.ofNat len)] 6)) (T6.setTop (mkF m 12 #[.val (.ref b), .val (.int (Int32.ofNat o)), .val (.int (Int32.ofNat len)), .val (.ref s.heap.size), .unset, .unset] [.int (Int32.ofNat len)])) := g6
  have c8 : Steps p.tables e below (s₁.setTop (entryFrame m #[.ref b, .int (Int32.ofNat o), .int (Int32.ofNat len)] 6)) (T6.setTop (mkF m 58 #[.val (.ref b), .val (.int (Int32.ofNat o)), .val (.int (Int32.ofNat len)), .val (.ref s.heap.size), .val (.int (Int32.ofNat len)), .unset] [.ref s.heap.size])) := c7.trans (by
    refine XS.istore X6.here hexec rfl (hb hbytes d12) rfl rfl ?_
    refine XS.iload X6.here hexec rfl (hb hbytes d14) rfl ?_
    refine XS.iloadN X6.here hexec rfl (hb hbytes d16) rfl ?_
    refine XS.icmpYes X6.here hexec rfl (pc0 := 17) rfl (hb hbytes d17) rfl (ii_eq_t rfl) (by decide) rfl ?_
    refine XS.aloadN X6.here hexec rfl (hb hbytes d57) rfl rfl ?_
    exact Steps.refl _)
  have X8 := X6.wide (L' := []) (cells' := 1) (slots' := len) (fun x hx hlt => by
    simp only [List.nil_append, copyLocs, List.mem_map, List.mem_range] at hx
    obtain ⟨i, -, rfl⟩ := hx
    exact absurd hlt (Nat.lt_irrefl _)) (Nat.le_refl _) (by omega)
  exact ⟨T6, some (.ref s.heap.size), _, _, _, X8, rfl, rfl, rfl, (fun h => by cases h), ⟨⟨rfl, B6, ba3.like (X3.warmed.alike.symm.trans X6.warmed.alike) p6.1 f6.1 f6.2.1 f6.2.2.1, f6.2.1.trans bv3, by rw [X6.warmed.alike.findClass, f6.1]; exact bf3, by rw [f6.2.2.1, bs3]; simp, fun j hj => by rw [f6.2.2.2 j, if_pos (by omega)]; rfl, kp3.put p6 (Nat.le_refl _)⟩, by rw [p6.2.2, bh3, hh0]; simp⟩, fun fs hl => c8.trans (X8.areturnOut hexec rfl hret rfl (hb hbytes d58) hl)⟩
end Cmp3
namespace CodL
def yN : MethodName := ⟨"java/lang/StringUTF16", "coderFromArrayLen", "([BI)B"⟩
abbrev yB : ByteArray := jdk_52_method_15_code
theorem d0 : decode yB 0 = .ok (.iload_n 1, 1) := by decide +kernel
theorem d1 : decode yB 1 = .ok (.aload_n 0, 1) := by decide +kernel
theorem d2 : decode yB 2 = .ok (.arraylength, 1) := by decide +kernel
theorem d3 : decode yB 3 = .ok (.isub, 1) := by decide +kernel
theorem d4 : decode yB 4 = .ok (.bipush 31, 2) := by decide +kernel
theorem d6 : decode yB 6 = .ok (.iushr, 1) := by decide +kernel
theorem d7 : decode yB 7 = .ok (.i2b, 1) := by decide +kernel
theorem d8 : decode yB 8 = .ok (.ireturn, 1) := by decide +kernel
def site : List Cond := []
def tab : Cond := tabOf yN yB 2 (some .byte) site
def P (d : Addr) (B : Cell) (args : Array Value) (s : State) : Prop := args = #[.ref d, .int (Int32.ofNat B.slots.size)] ∧ Arr .byte d B s
def E (r : Option Value) (s u : State) : Prop := XT.PureE (some (.int 0)) r s u
/-- an array as long as the number of chars: LATIN1 -/
theorem law (l : Launch) (d : Addr) (B : Cell) : Law l yN 2 2 0 0 yB 2 (some .byte) site (P d B) E [] 0 0 := by
  refine Law.of_walk (plainFor_of_name (by decide +kernel)) (by decide +kernel) (by decide +kernel) (by decide) (fun _ _ h => by rw [h.1]; rfl) (fun _ U U' hal hh h => ⟨h.1, h.2.mv hal hh⟩) (fun r U U' V V' h1 hal h2 h => XT.PureE.mv r U U' V V' h1 hal h2 h) ?_
  intro p e s m args below meth c s₁ X0 hexec hbytes hml hret hlk hnm hown hh0 W hP
  obtain ⟨rfl, hB⟩ := hP
  have hB0 := hB.mv X0.warmed.alike hh0
  have c1 : Steps p.tables e below (s₁.setTop (entryFrame m #[.ref d, .int (Int32.ofNat B.slots.size)] 2)) (s₁.setTop (mkF m 0 #[.val (.ref d), .val (.int (Int32.ofNat B.slots.size))] [])) := entry rfl
  have c2 : Steps p.tables e below (s₁.setTop (entryFrame m #[.ref d, .int (Int32.ofNat B.slots.size)] 2)) (s₁.setTop (mkF m 2 #[.val (.ref d), .val (.int (Int32.ofNat B.slots.size))] [.ref d, .int (Int32.ofNat B.slots.size)])) := c1.trans (by
    refine XS.iloadN X0.here hexec rfl (hb hbytes d0) rfl ?_
    refine XS.aloadN X0.here hexec rfl (hb hbytes d1) rfl rfl ?_
    exact Steps.refl _)
  have c3 : Steps p.tables e below (s₁.setTop (entryFrame m #[.ref d, .int (Int32.ofNat B.slots.size)] 2)) (s₁.setTop (mkF m 8 #[.val (.ref d), .val (.int (Int32.ofNat B.slots.size))] [.int (lo8 (ushr (Int32.ofNat B.slots.size - Int32.ofNat B.slots.size) 31))])) := c2.trans (by
    refine X0.alen hexec hB0 rfl rfl (hb hbytes d2) ?_
    refine XS.isub X0.here hexec rfl (hb hbytes d3) rfl ?_
    refine bipushV X0.here hexec rfl 31 (hb hbytes d4) (by decide) ?_
    refine iushr X0.here hexec rfl (hb hbytes d6) rfl ?_
    refine i2b X0.here hexec rfl (hb hbytes d7) rfl ?_
    exact Steps.refl _)
  have e0 : lo8 (ushr (Int32.ofNat B.slots.size - Int32.ofNat B.slots.size) 31) = 0 := by rw [Int32.sub_self]; decide
  rw [e0] at c3
  exact ⟨s₁, some (.int 0), _, _, _, X0, rfl, rfl, rfl, (fun h => by cases h), ⟨rfl, hh0⟩, fun fs hl => c3.trans (X0.ireturnOut hexec hret rfl (Or.inr (Or.inr (Or.inl rfl))) (hb hbytes d8) hl)⟩
end CodL
/-- the String at a is Latin-1 over a new byte[] (the heap's one new cell): the low bytes of the len chars of A from o on; every cell but a is kept -/
def Got (a : Addr) (D : Cell) (fV fC : Field) (A : Cell) (o len : Nat) (r : Option Value) (s u : State) : Prop := r = none ∧ ∃ D' V : Cell, Blank "java/lang/String" a D' u ∧ Same D D' [fV.slot, fC.slot] ∧ D'.slots[fV.slot]? = some (.ref s.heap.size) ∧ D'.slots[fC.slot]? = some (.int 0) ∧ Arr .byte s.heap.size V u ∧ V.vm = .none ∧ u.vm.findClass "[B" = some V.cls ∧ V.slots.size = len ∧ (∀ j, j < len → V.slots[j]? = some (.int (lo8 (cv A (o + j))))) ∧ (∀ (y : Addr) (c : Cell), y ≠ a → s.heap[y]? = some c → u.heap[y]? = some c) ∧ u.heap.size = s.heap.size + 1
theorem Got.mv {a : Addr} {D A : Cell} {fV fC : Field} {o len : Nat} : ∀ r (U U' V V' : State), U'.heap = U.heap → V.vm.Alike V'.vm → V'.heap = V.heap → Got a D fV fC A o len r U V → Got a D fV fC A o len r U' V' :=
  fun r U U' V V' h1 hal h2 ⟨e0, D', X, a1, a2, a3, a4, a5, a6, a7, a8, a9, a10, a11⟩ => ⟨e0, D', X, a1.mv hal h2, a2, by rw [h1]; exact a3, a4, by rw [h1]; exact a5.mv hal h2, a6, by rw [hal.findClass]; exact a7, a8, a9, by rw [h1, h2]; exact a10, by rw [h1, h2]; exact a11⟩
namespace New4
def yN : MethodName := ⟨"java/lang/String", "<init>", "([CIILjava/lang/Void;)V"⟩
abbrev yB : ByteArray := jdk_42_method_149_code
theorem d0 : decode yB 0 = .ok (.aload_n 0, 1) := by decide +kernel
theorem d1 : decode yB 1 = .ok (.invokespecial 1, 3) := by decide +kernel
theorem d4 : decode yB 4 = .ok (.iload_n 3, 1) := by decide +kernel
theorem d5 : decode yB 5 = .ok (.ifCond (.ne) 22, 3) := by decide +kernel
theorem d27 : decode yB 27 = .ok (.getstatic 38, 3) := by decide +kernel
theorem d30 : decode yB 30 = .ok (.ifCond (.eq) 28, 3) := by decide +kernel
theorem d33 : decode yB 33 = .ok (.aload_n 1, 1) := by decide +kernel
theorem d34 : decode yB 34 = .ok (.iload_n 2, 1) := by decide +kernel
theorem d35 : decode yB 35 = .ok (.iload_n 3, 1) := by decide +kernel
theorem d36 : decode yB 36 = .ok (.invokestatic 177, 3) := by decide +kernel
theorem d39 : decode yB 39 = .ok (.astore 5, 2) := by decide +kernel
theorem d41 : decode yB 41 = .ok (.aload_n 0, 1) := by decide +kernel
theorem d42 : decode yB 42 = .ok (.aload 5, 2) := by decide +kernel
theorem d44 : decode yB 44 = .ok (.iload_n 3, 1) := by decide +kernel
theorem d45 : decode yB 45 = .ok (.invokestatic 47, 3) := by decide +kernel
theorem d48 : decode yB 48 = .ok (.putfield 15, 3) := by decide +kernel
theorem d51 : decode yB 51 = .ok (.aload_n 0, 1) := by decide +kernel
theorem d52 : decode yB 52 = .ok (.aload 5, 2) := by decide +kernel
theorem d54 : decode yB 54 = .ok (.putfield 9, 3) := by decide +kernel
theorem d57 : decode yB 57 = .ok (.return_, 1) := by decide +kernel
def site : List Cond := [.fieldLink "java/lang/String" 38 "java/lang/String" "COMPACT_STRINGS" "Z", Cmp3.tab, CodL.tab, .laysFinal "java/lang/String" "java/lang/String" "value" "[B", .fieldLink "java/lang/String" 9 "java/lang/String" "value" "[B", .laysFinal "java/lang/String" "java/lang/String" "coder" "B", .fieldLink "java/lang/String" 15 "java/lang/String" "coder" "B"] ++ objW "java/lang/String" 1 ++ staticW "java/lang/String" 177 Cmp3.yN ++ staticW "java/lang/String" 47 CodL.yN
def tab : Cond := tabOf yN yB 6 none site
def P (a : Addr) (D : Cell) (fV fC : Field) (b : Addr) (A : Cell) (z : Int32) (o len : Nat) (args : Array Value) (s : State) : Prop := args = #[.ref a, .ref b, .int (Int32.ofNat o), .int (Int32.ofNat len), .null] ∧ Blank "java/lang/String" a D s ∧ Found "java/lang/String" "value" "[B" fV s ∧ Found "java/lang/String" "coder" "B" fC s ∧ Ch b A s ∧ StaticIs s "java/lang/String" "COMPACT_STRINGS" "Z" (.int z) ∧ ¬ z = 0 ∧ 0 < len ∧ o + len ≤ A.slots.size ∧ len ≤ 536870912 ∧ ∀ i, i < len → ¬ 255 < cv A (o + i)
def E (a : Addr) (D : Cell) (fV fC : Field) (A : Cell) (o len : Nat) (r : Option Value) (s u : State) : Prop := Got a D fV fC A o len r s u
/-- len > 0, no char of the range above 255: a Latin-1 String of their low bytes -/
theorem law (l : Launch) (a : Addr) (D : Cell) (fV fC : Field) (b : Addr) (A : Cell) (z : Int32) (o len : Nat) : Law l yN 5 4 2 35 yB 6 none site (P a D fV fC b A z o len) (E a D fV fC A o len) [⟨a, fC.slot⟩, ⟨a, fV.slot⟩] 1 len := by
  refine Law.of_walk (plainFor_of_name (by decide +kernel)) (by decide +kernel) (by decide +kernel) (by decide) (fun _ _ h => by rw [h.1]; rfl) (fun _ U U' hal hh h => ⟨h.1, h.2.1.mv hal hh, h.2.2.1.al hal, h.2.2.2.1.al hal, h.2.2.2.2.1.mv hal hh, h.2.2.2.2.2.1.there hal hh, h.2.2.2.2.2.2⟩) (fun r U U' V V' h1 hal h2 h => Got.mv r U U' V V' h1 hal h2 h) ?_
  intro p e s m args below meth c s₁ X0 hexec hbytes hml hret hlk hnm hown hh0 W hP
  obtain ⟨rfl, hB, f1, f2, hA, s1, hz, l0, l1, l2, hp⟩ := hP
  have a31 := hA.1.2.2.2
  have c1 : Steps p.tables e below (s₁.setTop (entryFrame m #[.ref a, .ref b, .int (Int32.ofNat o), .int (Int32.ofNat len), .null] 6)) (s₁.setTop (mkF m 0 #[.val (.ref a), .val (.ref b), .val (.int (Int32.ofNat o)), .val (.int (Int32.ofNat len)), .val .null, .unset] [])) := entry rfl
  have c2 : Steps p.tables e below (s₁.setTop (entryFrame m #[.ref a, .ref b, .int (Int32.ofNat o), .int (Int32.ofNat len), .null] 6)) (s₁.setTop (mkF m 1 #[.val (.ref a), .val (.ref b), .val (.int (Int32.ofNat o)), .val (.int (Int32.ofNat len)), .val .null, .unset] [.ref a])) := c1.trans (by
    refine XS.aloadN X0.here hexec rfl (hb hbytes d0) rfl rfl ?_
    exact Steps.refl _)
  obtain ⟨T3, X3, q3, st3⟩ := X0.oinit hexec hown (wks W (objW "java/lang/String" 1)) (g := (mkF m 1 #[.val (.ref a), .val (.ref b), .val (.int (Int32.ofNat o)), .val (.int (Int32.ofNat len)), .val .null, .unset] [.ref a])) rfl (by rw [hml]; rfl) (rest := []) rfl (hb hbytes d1) (W := 0) (by show 2 * 0 + 0 ≤ _; decide) (Nat.le_of_ble_eq_true rfl) (Nat.le_of_ble_eq_true rfl)
  have hh3 := q3.trans hh0
  have c4 : Steps p.tables e below (s₁.setTop (entryFrame m #[.ref a, .ref b, .int (Int32.ofNat o), .int (Int32.ofNat len), .null] 6)) (T3.setTop (mkF m 27 #[.val (.ref a), .val (.ref b), .val (.int (Int32.ofNat o)), .val (.int (Int32.ofNat len)), .val .null, .unset] [])) := (c2.trans (st3 _ (Steps.refl _))).trans (by
    refine XS.iloadN X3.here hexec rfl (hb hbytes d4) rfl ?_
    refine XS.ifYes X3.here hexec rfl (pc0 := 5) rfl (hb hbytes d5) rfl (i0_ne_t (nz32 (by omega) l0)) (by decide) rfl ?_
    exact Steps.refl _)
  obtain ⟨T5, X5, q5, st5⟩ := X3.sget hexec hown (wk W (.fieldLink "java/lang/String" 38 "java/lang/String" "COMPACT_STRINGS" "Z")) s1 (fun _ _ h => by rw [hh3]; exact h) (g := (mkF m 27 #[.val (.ref a), .val (.ref b), .val (.int (Int32.ofNat o)), .val (.int (Int32.ofNat len)), .val .null, .unset] [])) rfl (hb hbytes d27)
  have hh5 := q5.trans hh3
  have c6 : Steps p.tables e below (s₁.setTop (entryFrame m #[.ref a, .ref b, .int (Int32.ofNat o), .int (Int32.ofNat len), .null] 6)) (T5.setTop (mkF m 30 #[.val (.ref a), .val (.ref b), .val (.int (Int32.ofNat o)), .val (.int (Int32.ofNat len)), .val .null, .unset] [.int z])) := c4.trans (st5 _ (Steps.refl _))
  have c7 : Steps p.tables e below (s₁.setTop (entryFrame m #[.ref a, .ref b, .int (Int32.ofNat o), .int (Int32.ofNat len), .null] 6)) (T5.setTop (mkF m 36 #[.val (.ref a), .val (.ref b), .val (.int (Int32.ofNat o)), .val (.int (Int32.ofNat len)), .val .null, .unset] [.int (Int32.ofNat len), .int (Int32.ofNat o), .ref b])) := c6.trans (by
    refine XS.ifNo X5.here hexec rfl (hb hbytes d30) rfl (i0_eq_f hz) ?_
    refine XS.aloadN X5.here hexec rfl (hb hbytes d33) rfl rfl ?_
    refine XS.iloadN X5.here hexec rfl (hb hbytes d34) rfl ?_
    refine XS.iloadN X5.here hexec rfl (hb hbytes d35) rfl ?_
    exact Steps.refl _)
  obtain ⟨v8, T8, X8, E8, g8⟩ := X5.callS hexec (Cmp3.law l b A o len) hown (wks W (staticW "java/lang/String" 177 Cmp3.yN)) (wk W Cmp3.tab) (W := 0) (Nat.le_of_ble_eq_true rfl) (Nat.le_of_ble_eq_true rfl) (Nat.le_refl _) (by show 0 + len ≤ len; omega) (g := (mkF m 36 #[.val (.ref a), .val (.ref b), .val (.int (Int32.ofNat o)), .val (.int (Int32.ofNat len)), .val .null, .unset] [.int (Int32.ofNat len), .int (Int32.ofNat o), .ref b])) rfl (by rw [hml]; rfl) c7 (argsL := [.ref b, .int (Int32.ofNat o), .int (Int32.ofNat len)]) (rest := []) rfl rfl (by show 2 * 0 + 0 ≤ _; decide) (hb hbytes d36) (⟨rfl, hA.mv X5.warmed.alike hh5, l1, l2, hp⟩)
  obtain ⟨e8, z8⟩ := E8
  obtain ⟨rfl, N, n1, n2, n3, n4, n5, n6⟩ := NewArr.mv _ T5 s _ _ hh5.symm (Vm.Alike.refl _) rfl e8
  rw [hh5] at z8
  have hB1 := hB.keep X8.warmed.alike (n6 _ _ hB.1)
  have hne : s.heap.size ≠ a := (Nat.ne_of_lt (Array.getElem?_eq_some_iff.mp hB.1).1).symm
  have c9 : Steps p.tables e below (s₁.setTop (entryFrame m #[.ref a, .ref b, .int (Int32.ofNat o), .int (Int32.ofNat len), .null] 6)) (T8.setTop (mkF m 39 #[.val (.ref a), .val (.ref b), .val (.int (Int32.ofNat o)), .val (.int (Int32.ofNat len)), .val .null, .unset] [.ref s.heap.size])) := g8
  have c10 : Steps p.tables e below (s₁.setTop (entryFrame m #[.ref a, .ref b, .int (Int32.ofNat o), .int (Int32.ofNat len), .null] 6)) (T8.setTop (mkF m 45 #[.val (.ref a), .val (.ref b), .val (.int (Int32.ofNat o)), .val (.int (Int32.ofNat len)), .val .null, .val (.ref s.heap.size)] [.int (Int32.ofNat N.slots.size), .ref s.heap.size, .ref a])) := by
    have hc : Steps p.tables e below (s₁.setTop (entryFrame m #[.ref a, .ref b, .int (Int32.ofNat o), .int (Int32.ofNat len), .null] 6)) (T8.setTop (mkF m 45 #[.val (.ref a), .val (.ref b), .val (.int (Int32.ofNat o)), .val (.int (Int32.ofNat len)), .val .null, .val (.ref s.heap.size)] [.int (Int32.ofNat len), .ref s.heap.size, .ref a])) := c9.trans (by
      refine XS.astore X8.here hexec rfl (hb hbytes d39) rfl rfl rfl ?_
      refine XS.aloadN X8.here hexec rfl (hb hbytes d41) rfl rfl ?_
      refine XS.aload X8.here hexec rfl (hb hbytes d42) rfl rfl ?_
      refine XS.iloadN X8.here hexec rfl (hb hbytes d44) rfl ?_
      exact Steps.refl _)
    rw [n4]; exact hc
  obtain ⟨v11, T11, X11, E11, g11⟩ := X8.callS hexec (CodL.law l s.heap.size N) hown (wks W (staticW "java/lang/String" 47 CodL.yN)) (wk W CodL.tab) (W := 1) (Nat.le_of_ble_eq_true rfl) (Nat.le_of_ble_eq_true rfl) (Nat.le_refl _) (by show 0 + len + 0 ≤ len; omega) (g := (mkF m 45 #[.val (.ref a), .val (.ref b), .val (.int (Int32.ofNat o)), .val (.int (Int32.ofNat len)), .val .null, .val (.ref s.heap.size)] [.int (Int32.ofNat N.slots.size), .ref s.heap.size, .ref a])) rfl (by rw [hml]; rfl) c10 (argsL := [.ref s.heap.size, .int (Int32.ofNat N.slots.size)]) (rest := [.ref a]) rfl rfl (by show 2 * 0 + (1 + 0) ≤ _; decide) (hb hbytes d45) (⟨rfl, n1⟩)
  obtain ⟨rfl, q11⟩ := E11
  have hB11 := hB1.mv (X8.warmed.alike.symm.trans X11.warmed.alike) q11
  have c12 : Steps p.tables e below (s₁.setTop (entryFrame m #[.ref a, .ref b, .int (Int32.ofNat o), .int (Int32.ofNat len), .null] 6)) (T11.setTop (mkF m 48 #[.val (.ref a), .val (.ref b), .val (.int (Int32.ofNat o)), .val (.int (Int32.ofNat len)), .val .null, .val (.ref s.heap.size)] [.int 0, .ref a])) := g11
  obtain ⟨T13, X13, p13, bl13, sl13, st13⟩ := X11.finit hexec hown (wk W (.fieldLink "java/lang/String" 15 "java/lang/String" "coder" "B")) (Or.inr ⟨_, (wk W (.laysFinal "java/lang/String" "java/lang/String" "coder" "B"))⟩) (Or.inl ⟨rfl, hnm⟩) f2 (Or.inl rfl) hB11 (t := .byte) (by decide +kernel) rfl (g := (mkF m 48 #[.val (.ref a), .val (.ref b), .val (.int (Int32.ofNat o)), .val (.int (Int32.ofNat len)), .val .null, .val (.ref s.heap.size)] [.int 0, .ref a])) rfl (rest := []) rfl (hb hbytes d48)
  have c14 : Steps p.tables e below (s₁.setTop (entryFrame m #[.ref a, .ref b, .int (Int32.ofNat o), .int (Int32.ofNat len), .null] 6)) (T13.setTop (mkF m 54 #[.val (.ref a), .val (.ref b), .val (.int (Int32.ofNat o)), .val (.int (Int32.ofNat len)), .val .null, .val (.ref s.heap.size)] [.ref s.heap.size, .ref a])) := (c12.trans (st13 _ (Steps.refl _))).trans (by
    refine XS.aloadN X13.here hexec rfl (hb hbytes d51) rfl rfl ?_
    refine XS.aload X13.here hexec rfl (hb hbytes d52) rfl rfl ?_
    exact Steps.refl _)
  obtain ⟨T15, X15, p15, bl15, sl15, st15⟩ := X13.finit hexec hown (wk W (.fieldLink "java/lang/String" 9 "java/lang/String" "value" "[B")) (Or.inr ⟨_, (wk W (.laysFinal "java/lang/String" "java/lang/String" "value" "[B"))⟩) (Or.inl ⟨rfl, hnm⟩) f1 (Or.inl rfl) bl13 (t := (.array .byte)) (by decide +kernel) rfl (g := (mkF m 54 #[.val (.ref a), .val (.ref b), .val (.int (Int32.ofNat o)), .val (.int (Int32.ofNat len)), .val .null, .val (.ref s.heap.size)] [.ref s.heap.size, .ref a])) rfl (rest := []) rfl (hb hbytes d54)
  have c16 : Steps p.tables e below (s₁.setTop (entryFrame m #[.ref a, .ref b, .int (Int32.ofNat o), .int (Int32.ofNat len), .null] 6)) (T15.setTop (mkF m 57 #[.val (.ref a), .val (.ref b), .val (.int (Int32.ofNat o)), .val (.int (Int32.ofNat len)), .val .null, .val (.ref s.heap.size)] [])) := c14.trans (st15 _ (Steps.refl _))
  have ap := apart (Or.inr ⟨_, (wk W (.laysFinal "java/lang/String" "java/lang/String" "value" "[B"))⟩) (Or.inr ⟨_, (wk W (.laysFinal "java/lang/String" "java/lang/String" "coder" "B"))⟩) f1 f2 (t₁ := .array .byte) (t₂ := .byte) (by decide +kernel) (by decide +kernel) (by decide)
  have al := X8.warmed.alike.symm.trans X15.warmed.alike
  have n7 : T11.heap[s.heap.size]? = some N := by rw [q11]; exact n1.1
  exact ⟨T15, none, _, _, _, X15, by simp, rfl, by omega, (fun _ => rfl), ⟨rfl, _, N, bl15, ((Same.refl D _).set _ (by simp)).set _ (by simp), sl15, (Cell.slots_setSlot_ne _ ap).trans sl13, n1.keep al (p15.other hne (p13.other hne n7)), n2, by rw [al.findClass]; exact n3, n4, n5, fun y c h1 h2 => p15.other h1 (p13.other h1 (by rw [q11]; exact n6 y c h2)), by rw [p15.2.2, p13.2.2, q11]; exact z8⟩, fun fs hl => c16.trans (X15.returnOut hexec hret (hb hbytes d57) hl)⟩
end New4
namespace New1
def yN : MethodName := ⟨"java/lang/String", "<init>", "([C)V"⟩
abbrev yB : ByteArray := jdk_42_method_3_code
theorem d0 : decode yB 0 = .ok (.aload_n 0, 1) := by decide +kernel
theorem d1 : decode yB 1 = .ok (.aload_n 1, 1) := by decide +kernel
theorem d2 : decode yB 2 = .ok (.iconst 0, 1) := by decide +kernel
theorem d3 : decode yB 3 = .ok (.aload_n 1, 1) := by decide +kernel
theorem d4 : decode yB 4 = .ok (.arraylength, 1) := by decide +kernel
theorem d5 : decode yB 5 = .ok (.aconst_null, 1) := by decide +kernel
theorem d6 : decode yB 6 = .ok (.invokespecial 27, 3) := by decide +kernel
theorem d9 : decode yB 9 = .ok (.return_, 1) := by decide +kernel
def site : List Cond := [New4.tab] ++ initW "java/lang/String" 27 New4.yN
def tab : Cond := tabOf yN yB 2 none site
def P (a : Addr) (D : Cell) (fV fC : Field) (b : Addr) (A : Cell) (z : Int32) (args : Array Value) (s : State) : Prop := args = #[.ref a, .ref b] ∧ Blank "java/lang/String" a D s ∧ Found "java/lang/String" "value" "[B" fV s ∧ Found "java/lang/String" "coder" "B" fC s ∧ Ch b A s ∧ StaticIs s "java/lang/String" "COMPACT_STRINGS" "Z" (.int z) ∧ ¬ z = 0 ∧ 0 < A.slots.size ∧ A.slots.size ≤ 536870912 ∧ ∀ i, i < A.slots.size → ¬ 255 < cv A i
def E (a : Addr) (D : Cell) (fV fC : Field) (A : Cell) (r : Option Value) (s u : State) : Prop := Got a D fV fC A 0 A.slots.size r s u
/-- new String(chars), not empty, no char above 255: a Latin-1 String of their low bytes -/
theorem law (l : Launch) (a : Addr) (D : Cell) (fV fC : Field) (b : Addr) (A : Cell) (z : Int32) : Law l yN 2 1 3 52 yB 2 none site (P a D fV fC b A z) (E a D fV fC A) [⟨a, fC.slot⟩, ⟨a, fV.slot⟩] 1 A.slots.size := by
  refine Law.of_walk (plainFor_of_name (by decide +kernel)) (by decide +kernel) (by decide +kernel) (by decide) (fun _ _ h => by rw [h.1]; rfl) (fun _ U U' hal hh h => ⟨h.1, h.2.1.mv hal hh, h.2.2.1.al hal, h.2.2.2.1.al hal, h.2.2.2.2.1.mv hal hh, h.2.2.2.2.2.1.there hal hh, h.2.2.2.2.2.2⟩) (fun r U U' V V' h1 hal h2 h => Got.mv r U U' V V' h1 hal h2 h) ?_
  intro p e s m args below meth c s₁ X0 hexec hbytes hml hret hlk hnm hown hh0 W hP
  obtain ⟨rfl, hB, f1, f2, hA, s1, hz, l0, l2, hp⟩ := hP
  have c1 : Steps p.tables e below (s₁.setTop (entryFrame m #[.ref a, .ref b] 2)) (s₁.setTop (mkF m 0 #[.val (.ref a), .val (.ref b)] [])) := entry rfl
  have c2 : Steps p.tables e below (s₁.setTop (entryFrame m #[.ref a, .ref b] 2)) (s₁.setTop (mkF m 6 #[.val (.ref a), .val (.ref b)] [.null, .int (Int32.ofNat A.slots.size), .int 0, .ref b, .ref a])) := c1.trans (by
    refine XS.aloadN X0.here hexec rfl (hb hbytes d0) rfl rfl ?_
    refine XS.aloadN X0.here hexec rfl (hb hbytes d1) rfl rfl ?_
    refine iconstV X0.here hexec rfl 0 (hb hbytes d2) (by decide) ?_
    refine XS.aloadN X0.here hexec rfl (hb hbytes d3) rfl rfl ?_
    refine X0.alen hexec (hA.1.mv X0.warmed.alike hh0) rfl rfl (hb hbytes d4) ?_
    refine XS.aconstNull X0.here hexec rfl (hb hbytes d5) ?_
    exact Steps.refl _)
  obtain ⟨v3, T3, X3, E3, g3⟩ := X0.callN hexec (New4.law l a D fV fC b A z 0 A.slots.size) rfl hown (wks W (initW "java/lang/String" 27 New4.yN)) (W New4.tab (by simp only [site, List.mem_cons, List.mem_append, true_or, or_true])) (W := 0) (Nat.le_of_ble_eq_true rfl) (Nat.le_of_ble_eq_true rfl) (Nat.le_refl _) (by show 0 + A.slots.size ≤ A.slots.size; omega) (g := (mkF m 6 #[.val (.ref a), .val (.ref b)] [.null, .int (Int32.ofNat A.slots.size), .int (Int32.ofNat 0), .ref b, .ref a])) rfl (by rw [hml]; rfl) c2 (argsL := [.ref b, .int (Int32.ofNat 0), .int (Int32.ofNat A.slots.size), .null]) (rest := []) rfl rfl (by show 2 * 0 + 0 ≤ _; decide) (hb hbytes d6) (⟨rfl, hB.mv X0.warmed.alike hh0, f1.al X0.warmed.alike, f2.al X0.warmed.alike, hA.mv X0.warmed.alike hh0, s1.there X0.warmed.alike hh0, hz, l0, by omega, l2, fun i hi => by rw [Nat.zero_add]; exact hp i hi⟩)
  have e0 := Got.mv _ s₁ s _ _ hh0.symm (Vm.Alike.refl _) rfl E3
  obtain rfl := e0.1
  have c4 : Steps p.tables e below (s₁.setTop (entryFrame m #[.ref a, .ref b] 2)) (T3.setTop (mkF m 9 #[.val (.ref a), .val (.ref b)] [])) := g3
  exact ⟨T3, none, _, _, _, X3, by simp, rfl, by omega, (fun _ => rfl), e0, fun fs hl => c4.trans (X3.returnOut hexec hret (hb hbytes d9) hl)⟩
theorem pays {l : Launch} {R : Room} {p : Program} {e : Env} {below : List Frame} {s : State} {sargs : Array Value} {len W : Nat} (a : Addr) (D : Cell) (fV fC : Field) (b : Addr) (A : Cell) (z : Int32) (htab : tab.before sargs s = true) (hfr : 4 ≤ R.frames) (hlo : W + 65 ≤ R.locals) :
    Back l R p e below s sargs yN len W (fun A₁ a₁ => A₁.cells + 1 ≤ R.cells ∧ A₁.slots + A.slots.size ≤ R.slots ∧ P a D fV fC b A z a₁ A₁.U) (fun A₁ _ v₁ B₁ => E a D fV fC A v₁ A₁.U B₁.U ∧ B₁.locs = A₁.locs ++ [⟨a, fC.slot⟩, ⟨a, fV.slot⟩] ∧ B₁.cells = A₁.cells + 1 ∧ B₁.slots = A₁.slots + A.slots.size) :=
  (law l a D fV fC b A z).pays htab hfr (by omega)
end New1
/-- the byte, read back as charAt reads it, is the char -/
theorem lo8_mask {x : Int32} (h0 : ¬ x < 0) (h1 : ¬ 255 < x) : lo8 x &&& 255 = x := by
  have t : ∀ k : Fin 256, lo8 (Int32.ofNat k.val) &&& 255 = Int32.ofNat k.val := by decide +kernel
  rw [Int32.lt_iff_toInt_lt] at h0 h1
  have e0 : (0 : Int32).toInt = 0 := rfl
  have e1 : (255 : Int32).toInt = 255 := rfl
  obtain ⟨k, hk⟩ : ∃ k : Nat, x.toInt = k := ⟨x.toInt.toNat, by omega⟩
  have hx : x = Int32.ofNat k := Int32.toInt_inj.mp (by rw [hk, Int32.toInt_ofNat_small (by omega)])
  rw [hx]
  exact t ⟨k, by omega⟩
end StrChars
namespace StrChars.Road
open Jvm Sem ClassFile Op Lib Jvm.Stand Jvm.Free Jvm.Free.XT
open Jvm.Lib.Cold (StaticIs)
abbrev ST : String := "java/lang/String"
/-- every table word that New1's law asks, flat -/
abbrev words : List Jvm.Cond := [.code New1.yN New1.yB 2 none, .initialized ST, .methodLink ST 27 New4.yN, .instanceMethod New4.yN,
  .code New4.yN New4.yB 6 none, .fieldLink ST 38 ST "COMPACT_STRINGS" "Z", .laysFinal ST ST "value" "[B", .fieldLink ST 9 ST "value" "[B", .laysFinal ST ST "coder" "B", .fieldLink ST 15 ST "coder" "B",
  .methodLink ST 1 Lib.objectInit, .instanceMethod Lib.objectInit, .code Lib.objectInit ⟨#[0xb1]⟩ 1 none, .methodLink ST 177 Cmp3.yN, .static Cmp3.yN, .methodLink ST 47 CodL.yN, .static CodL.yN,
  .code Cmp3.yN Cmp3.yB 6 (some (.array .byte)), .initialized U16, .arrayClass .byte, .methodLink U16 115 Cmp5.yN, .static Cmp5.yN, .code Cmp5.yN Cmp5.yB 7 (some .int), .code CodL.yN CodL.yB 2 (some .byte)]
theorem tab_of {a : Array Value} {s : State} (h : ∀ w ∈ words, w.before a s = true) : New1.tab.before a s = true := by
  have h5 : Cmp5.tab.before a s = true := unparts (wk h (.code Cmp5.yN Cmp5.yB 7 (some .int))) (wks h (.initialized Cmp5.yN.cls :: Cmp5.site))
  have hc : CodL.tab.before a s = true := unparts (wk h (.code CodL.yN CodL.yB 2 (some .byte))) (wks h (.initialized CodL.yN.cls :: CodL.site))
  have q5 : ∀ w ∈ Cmp5.tab :: words, w.before a s = true := fun w hw => (List.mem_cons.mp hw).elim (fun e => e ▸ h5) (h w)
  have h3 : Cmp3.tab.before a s = true := unparts (wk q5 (.code Cmp3.yN Cmp3.yB 6 (some (.array .byte)))) (wks q5 (.initialized Cmp3.yN.cls :: Cmp3.site))
  have q3 : ∀ w ∈ Cmp3.tab :: CodL.tab :: words, w.before a s = true := fun w hw => (List.mem_cons.mp hw).elim (fun e => e ▸ h3) fun hw => (List.mem_cons.mp hw).elim (fun e => e ▸ hc) (h w)
  have h4 : New4.tab.before a s = true := unparts (wk q3 (.code New4.yN New4.yB 6 none)) (wks q3 (.initialized New4.yN.cls :: New4.site))
  have q4 : ∀ w ∈ New4.tab :: words, w.before a s = true := fun w hw => (List.mem_cons.mp hw).elim (fun e => e ▸ h4) (h w)
  exact unparts (wk q4 (.code New1.yN New1.yB 2 none)) (wks q4 (.initialized New1.yN.cls :: New1.site))
/-- the words ride from the start Z to the walk's own state -/
theorem moved {Z s : State} {a0 args : Array Value} (hZ : Z.Warmed39 s.vm) (hw : ∀ d ∈ words, d.before a0 Z = true) : ∀ d ∈ words, d.before args s = true := fun d hd => by
  have q := hw d hd
  have t : ∀ d ∈ words, d = .arrayClass .byte ∨ (d.onTables && d.keepsFace) = true := by decide +kernel
  rcases t d hd with rfl | t
  · exact RoadKit.mvA hZ q
  · exact RoadKit.mv hZ q t
/-- WHAT COMES BACK, over the tables of the start Z: h the heap at the call, h' behind it -/
def Q (Z : State) (x : Addr) (A : Cell) (h : Heap) (v : Option Value) (h' : Heap) (L : List Loc) : Prop := v = none ∧ (∀ y ∈ L, y.base = x) ∧ RoadKit.Keep h h' [x] ∧ h'.size = h.size + 1 ∧ RoadKit.Exa Z h' x ST ∧ RoadKit.Fld Z h' x ST "value" "[B" (.ref h.size) ∧ RoadKit.Fld Z h' x ST "coder" "B" (.int 0) ∧
  (∃ V : Cell, RoadKit.Arr Z h' h.size V .byte ∧ V.vm = .none ∧ Z.vm.findClass "[B" = some V.cls ∧ V.slots.size = A.slots.size ∧ ∀ j, j < A.slots.size → V.slots[j]? = some (.int (lo8 (cv A j)))) ∧
  ∀ (O n d : String) (w : Value), RoadKit.Fld Z h x O n d w → RoadKit.slotOf Z O n d ≠ RoadKit.slotOf Z ST "value" "[B" → RoadKit.slotOf Z O n d ≠ RoadKit.slotOf Z ST "coder" "B" → RoadKit.Fld Z h' x O n d w
/-- **new String(chars) AT A CALL, IN THE ROAD'S FORM**: for specialBack behind newO: x the fresh String, b the char[] with the cell A -/
theorem back {p : Program} {l : Launch} {e : Env} {R : Room} {s : State} {args : Array Value} {below : List Frame} {len W : Nat} {Z : State} {a0 : Array Value} {h : Heap} (hZ : Z.Warmed39 s.vm) (hw : ∀ d ∈ words, d.before a0 Z = true) {kI : Nat} (wi : (Jvm.Cond.instantiable ST kI).before a0 Z = true)
    {x b : Addr} {A : Cell} {z : Int32} {v0 c0 : Value} (E : RoadKit.Exa Z h x ST) (V : RoadKit.Fld Z h x ST "value" "[B" v0) (C : RoadKit.Fld Z h x ST "coder" "B" c0) (K : RoadKit.Arr Z h b A .char) (hty : Typed .char A) (S : RoadKit.Sta Z h ST "COMPACT_STRINGS" "Z" (.int z)) (hz : ¬ z = 0)
    (l0 : 0 < A.slots.size) (l2 : A.slots.size ≤ 536870912) (hp : ∀ i, i < A.slots.size → ¬ 255 < cv A i) (hfr : 4 ≤ R.frames) (hlo : W + 65 ≤ R.locals) :
    Back l R p e below s args New1.yN len W (fun P a => a = #[.ref x, .ref b] ∧ P.U.heap = h ∧ P.cells + 1 ≤ R.cells ∧ P.slots + A.slots.size ≤ R.slots)
      (fun P _ v B => ∃ L, Q Z x A h v B.U.heap L ∧ B.locs = P.locs ++ L ∧ B.cells = P.cells + 1 ∧ B.slots = P.slots + A.slots.size) := by
  intro m meth c P g ig mk a X hg hsize hdg hW hn hp'
  obtain ⟨rfl, rfl, r1, r2⟩ := hp'
  have al : Z.vm.Alike P.U.vm := hZ.alike.trans X.warmed.alike
  obtain ⟨D, cfV, kV, iV, fV, hD, gV, stV, knV, obV, asV, slV⟩ := id V
  obtain ⟨D', cfC, kC, iC, fC, hD', gC, stC, -, -, asC, slC⟩ := id C
  cases hD.symm.trans hD'
  obtain ⟨D2, kD, e1, e2, e3, e4, e5⟩ := id E
  cases hD.symm.trans e1
  obtain ⟨c2, k2, i1, i2, i3, -⟩ := Cond.instantiable_spec wi
  cases e2.symm.trans i1
  cases e3.symm.trans i2
  obtain ⟨kU, u1, u2⟩ := al.2.2 _ _ e3
  have hB : Blank ST x D P.U := ⟨hD, ⟨knV, fun q hq => by rw [hq] at obV; cases obV⟩, by rw [al.findClass]; exact e2, kU, u1, by rw [u2]; exact i3, by rw [u2]; exact e5 i3⟩
  have F1 : Found ST "value" "[B" fV P.U := ⟨SBG.found_only al ⟨cfV, kV, iV, gV⟩, stV⟩
  have F2 : Found ST "coder" "B" fC P.U := ⟨SBG.found_only al ⟨cfC, kC, iC, gC⟩, stC⟩
  have hA : Ch b A P.U := ⟨⟨K.1, State.isArrayOf_alike al K.2.1, K.2.2, by omega⟩, hty⟩
  have hS : StaticIs P.U ST "COMPACT_STRINGS" "Z" (.int z) := by
    obtain ⟨cfS, iS, kS, fS, st, cS, t1, t2, t3, t4, t5, t6, t7⟩ := S
    exact StaticIs.there (s := { Z with heap := P.U.heap }) ⟨cfS, iS, kS, fS, st, cS, t1, t2, t3, t4, t5, (fun q => by rw [q] at t6; cases t6), t7⟩ al rfl
  obtain ⟨v, B, X', ⟨⟨hv, E', V', q1, q2, q3, q4, q5, q6, q7, q8, q9, q10, q11⟩, hl, hc, hs⟩, st⟩ := New1.pays x D fV fC b A z (tab_of (moved hZ hw)) hfr hlo m meth c P g ig mk _ X hg hsize hdg hW hn ⟨r1, r2, rfl, hB, F1, F2, hA, hS, hz, l0, l2, hp⟩
  have al' : Z.vm.Alike B.U.vm := hZ.alike.trans X'.warmed.alike
  have hsz : E'.slots.size = D.slots.size := by
    obtain ⟨-, -, -, kB, w1, w2, w3⟩ := q1
    obtain ⟨kB', y1, y2⟩ := al'.2.2 _ _ e3
    rw [q2.2.1] at w1
    cases w1.symm.trans y1
    rw [w3, e5 i3, y2]
  refine ⟨v, B, X', ⟨_, ⟨hv, ?_, ⟨by omega, fun y cy hy hn' => q10 y cy (by simpa using hn') hy, fun y cy hy => ?_⟩, q11, ⟨E', _, q1.1, by rw [q2.2.1]; exact e2, by rw [q2.2.1]; exact e3, by rw [q2.1]; exact obV, fun _ => by rw [hsz]; exact e5 i3⟩,
    ⟨E', cfV, kV, iV, fV, q1.1, gV, stV, by rw [q2.1]; exact knV, by rw [q2.1]; exact obV, by rw [q2.2.1]; exact asV, q3⟩, ⟨E', cfC, kC, iC, fC, q1.1, gC, stC, by rw [q2.1]; exact knV, by rw [q2.1]; exact obV, by rw [q2.2.1]; exact asC, q4⟩,
    ⟨V', ⟨q5.1, State.isArrayOf_alike al'.symm q5.2.1, q5.2.2.1⟩, q6, by rw [← al'.findClass]; exact q7, q8, fun j hj => by have := q9 j hj; rwa [Nat.zero_add] at this⟩, fun O n d w F n1 n2 => ?_⟩, hl, hc, hs⟩, st⟩
  · intro y hy
    simp only [List.mem_cons, List.not_mem_nil, or_false] at hy
    rcases hy with rfl | rfl <;> rfl
  · by_cases q : y = x
    · subst q
      cases hD.symm.trans hy
      exact ⟨E', q1.1, q2.2.1, q2.1, hsz⟩
    · exact ⟨cy, q10 y cy q hy, rfl, rfl, rfl⟩
  · obtain ⟨D3, cf, k, i, f, g1, g2, g3, g4, g5, g6, g7⟩ := F
    cases hD.symm.trans g1
    simp only [RoadKit.slotOf, g2, gV, gC, Option.map_some, Option.getD_some] at n1 n2
    exact ⟨E', cf, k, i, f, q1.1, g2, g3, by rw [q2.1]; exact g4, by rw [q2.1]; exact g5, by rw [q2.2.1]; exact g6, by rw [q2.2.2 f.slot (by simp [n1, n2])]; exact g7⟩
end StrChars.Road
namespace StrChars.Road
open Jvm Sem ClassFile Op Lib Jvm.Stand Jvm.Free Jvm.Free.XT
/-- WHAT COMES BACK, the byte[] as a list of values -/
def QA (Z : State) (x : Addr) (zn : Int32) (cs : List Int32) (h : Heap) (v : Option Value) (h' : Heap) (L : List Loc) : Prop := v = none ∧ (∀ y ∈ L, y.base = x) ∧ RoadKit.Keep h h' [x] ∧ h'.size = h.size + 1 ∧ RoadKit.Exa Z h' x ST ∧ RoadKit.Fld Z h' x ST "value" "[B" (.ref h.size) ∧ RoadKit.Fld Z h' x ST "coder" "B" (.int 0) ∧
  (∃ kb, Z.vm.findClass "[B" = some kb ∧ RoadKit.Arv Z h' h.size kb .byte zn (cs.map fun c => .int (lo8 c)) (.int 0)) ∧
  ∀ (O n d : String) (w : Value), RoadKit.Fld Z h x O n d w → RoadKit.slotOf Z O n d ≠ RoadKit.slotOf Z ST "value" "[B" → RoadKit.slotOf Z O n d ≠ RoadKit.slotOf Z ST "coder" "B" → RoadKit.Fld Z h' x O n d w
/-- **new String(chars) AT A CALL, THE ARRAYS AS LISTS**: the char[] at b holds cs, not empty, no char above 255 -/
theorem backArv {p : Program} {l : Launch} {e : Env} {R : Room} {s : State} {args : Array Value} {below : List Frame} {len W : Nat} {Z : State} {a0 : Array Value} {h : Heap} (hZ : Z.Warmed39 s.vm) (hw : ∀ d ∈ words, d.before a0 Z = true) {kI : Nat} (wi : (Jvm.Cond.instantiable ST kI).before a0 Z = true)
    {x b : Addr} {k : ClassId} {zn z : Int32} {cs : List Int32} {dv v0 c0 : Value} (E : RoadKit.Exa Z h x ST) (V : RoadKit.Fld Z h x ST "value" "[B" v0) (C : RoadKit.Fld Z h x ST "coder" "B" c0) (K : RoadKit.Arv Z h b k .char zn (cs.map Value.int) dv) (S : RoadKit.Sta Z h ST "COMPACT_STRINGS" "Z" (.int z)) (hz : ¬ z = 0)
    (hlen : zn.toNatClampNeg = cs.length) (h0 : 0 < cs.length) (hbig : cs.length ≤ 536870912) (hall : ∀ c ∈ cs, ¬ 255 < c) (hfr : 4 ≤ R.frames) (hlo : W + 65 ≤ R.locals) :
    Back l R p e below s args New1.yN len W (fun P a => a = #[.ref x, .ref b] ∧ P.U.heap = h ∧ P.cells + 1 ≤ R.cells ∧ P.slots + cs.length ≤ R.slots)
      (fun P _ v B => ∃ L, QA Z x zn cs h v B.U.heap L ∧ B.locs = P.locs ++ L ∧ B.cells = P.cells + 1 ∧ B.slots = P.slots + cs.length) := by
  obtain ⟨A, K1, K2, K3, K4, K5, K6⟩ := K
  have e : A.slots.size = cs.length := K3.trans hlen
  have hat : ∀ (i : Nat) (hi : i < cs.length), A.slots[i]? = some (.int cs[i]) := fun i hi => by rw [K5 i (by omega)]; simp [List.getD_eq_getElem?_getD, hi]
  have hcv : ∀ (i : Nat) (hi : i < cs.length), cv A i = cs[i] := fun i hi => by unfold cv; rw [hat i hi]
  have hty : Typed .char A := fun i v hv => by
    have hi : i < A.slots.size := (Array.getElem?_eq_some_iff.mp hv).1
    have q := K5 i hi
    rw [hv] at q
    rw [Option.some.inj q]
    exact K6 i hi
  refine Back.mono (back hZ hw wi E V C K1 hty S hz (by omega) (by omega) (fun i hi => by rw [hcv i (by omega)]; exact hall _ (List.getElem_mem _)) hfr hlo) (fun P a hp => ⟨hp.1, hp.2.1, hp.2.2.1, by rw [e]; exact hp.2.2.2⟩) (fun P a v B hp hq => ?_)
  obtain ⟨L, ⟨q1, q2, q3, q4, q5, q6, q7, ⟨V', v1, v2, v3, v4, v5⟩, q9⟩, hl, hc, hs⟩ := hq
  refine ⟨L, ⟨q1, q2, q3, q4, q5, q6, q7, ⟨V'.cls, v3, V', v1, rfl, by rw [v4, e, hlen], K4, fun i hi => ?_, fun i hi => ?_⟩, q9⟩, hl, hc, by rw [hs, e]⟩
  · have hi' : i < cs.length := by omega
    rw [v5 i (by omega), hcv i hi']; simp [List.getD_eq_getElem?_getD, hi']
  · have hi' : i < cs.length := by omega
    simp only [List.getD_eq_getElem?_getD, List.getElem?_map, List.getElem?_eq_getElem hi', Option.map_some, Option.getD_some]
    exact fits_lo8 _
end StrChars.Road
namespace StrChars.Road
open Jvm Sem ClassFile Op Lib Jvm.Stand Jvm.Free Jvm.Free.XT
/-- WHAT COMES BACK, in the writer's own shape -/
def QV (Z : State) (x : Addr) (N : Int32) (bs : List Int32) (h : Heap) (n0 : Nat) (v : Option Value) (h' : Heap) (L : List Loc) : Prop := v = none ∧ RoadKit.Fr n0 L ∧ RoadKit.Keep h h' [x] ∧ RoadKit.Exa Z h' x ST ∧ RoadKit.Fld Z h' x ST "coder" "B" (.int 0) ∧
  ∃ (t : Addr) (kb : ClassId), n0 ≤ t ∧ h.size ≤ t ∧ ¬ t = x ∧ RoadKit.Fld Z h' x ST "value" "[B" (.ref t) ∧ RoadKit.Arv Z h' t kb .byte N (bs.map Value.int) (.int 0)
/-- **new String(chars) AT A CALL, FOR THE WRITER**: a char[] of n known ints, each 0 to 255 -/
theorem backV {p : Program} {l : Launch} {e : Env} {R : Room} {s : State} {args : Array Value} {below : List Frame} {len W : Nat} {Z : State} {a0 : Array Value} {h : Heap} (hZ : Z.Warmed39 s.vm) (hw : ∀ d ∈ words, d.before a0 Z = true) {kI : Nat} (wi : (Jvm.Cond.instantiable ST kI).before a0 Z = true)
    {x b : Addr} {kC : ClassId} {cs bs : List Int32} {d v0 c0 : Value} {z N : Int32} {n n0 : Nat} (hx0 : n0 ≤ x) (hh0 : n0 ≤ h.size) (E : RoadKit.Exa Z h x ST) (V : RoadKit.Fld Z h x ST "value" "[B" v0) (C : RoadKit.Fld Z h x ST "coder" "B" c0) (K : RoadKit.Arv Z h b kC .char N (cs.map Value.int) d) (S : RoadKit.Sta Z h ST "COMPACT_STRINGS" "Z" (.int z)) (hz : ¬ z = 0)
    (hn : cs.length = n) (hN : N = Int32.ofNat n) (l0 : 0 < n) (l2 : n ≤ 4000) (hp : ∀ c ∈ cs, ¬ c < 0 ∧ ¬ (255 : Int32) < c) (hb : bs = cs.map (fun c => c.toInt8.toInt32)) (hfr : 4 ≤ R.frames) (hlo : W + 65 ≤ R.locals) :
    Back l R p e below s args (⟨"java/lang/String", "<init>", "([C)V"⟩ : MethodName) len W (fun P a => a = #[.ref x, .ref b] ∧ P.U.heap = h ∧ P.cells + 1 ≤ R.cells ∧ P.slots + n ≤ R.slots)
      (fun P _ v B => ∃ L, QV Z x N bs h n0 v B.U.heap L ∧ B.locs = P.locs ++ L ∧ B.cells = P.cells + 1 ∧ B.slots = P.slots + n) := by
  subst hn hN hb
  refine Back.mono (backArv hZ hw wi E V C K S hz (n32 (by omega)) l0 (by omega) (fun c hc => (hp c hc).2) hfr hlo) (fun P a hp => hp) (fun P a v B hp hq => ?_)
  obtain ⟨L, ⟨q1, q2, q3, q4, q5, q6, q7, ⟨kb, v1, v2⟩, q9⟩, hl, hc, hs⟩ := hq
  exact ⟨L, ⟨q1, fun y hy => by rw [q2 y hy]; exact hx0, q3, q5, q7, h.size, kb, hh0, Nat.le_refl _, Nat.ne_of_gt E.lt, q6, by rw [List.map_map]; exact v2⟩, hl, hc, hs⟩
end StrChars.Road
namespace StrChars
open Jvm Sem ClassFile Op Lib Jvm.Stand Jvm.Free.XT Jvm.Free.ALB Jvm.Free.JM Jvm.Free
open Jvm.Lib.Cold (StaticIs)
def hi8 (x : Int32) : Int32 := lo8 (x >>> ((8 : Int32) &&& 31))
/-- what StringUTF16.getChar makes of two bytes -/
def pairCh (u v : Int32) : Int32 := (((u &&& 255) <<< ((0 : Int32) &&& 31)) ||| ((v &&& 255) <<< ((8 : Int32) &&& 31))).toUInt32.toUInt16.toUInt32.toInt32
theorem shr0 (c : Int32) : c >>> ((0 : Int32) &&& 31) = c := by
  have e : ((0 : Int32) &&& 31) = 0 := by decide
  rw [e]
  apply Int32.toBitVec_inj.mp
  rw [Int32.toBitVec_shiftRight]
  have e1 : ((0 : Int32).toBitVec.smod 32) = 0#32 := by decide
  rw [e1, BitVec.sshiftRight_eq']
  exact BitVec.sshiftRight_zero
theorem lo8_and (x : Int32) : (lo8 x &&& 255).toBitVec.toNat = x.toBitVec.toNat % 256 := by
  have h : (lo8 x).toBitVec = (x.toBitVec.signExtend 8).signExtend 32 := by rw [lo8, Int8.toBitVec_toInt32, Int32.toBitVec_toInt8]
  rw [Int32.toBitVec_and, BitVec.toNat_and, h]
  have e : ((x.toBitVec.signExtend 8).signExtend 32).toNat % 256 = x.toBitVec.toNat % 256 := by
    rw [BitVec.toNat_signExtend]
    have hlt := x.toBitVec.isLt
    simp only [BitVec.toNat_setWidth, BitVec.toNat_signExtend]
    split <;> split <;> omega
  rw [← e]
  exact Nat.and_two_pow_sub_one_eq_mod _ 8
theorem pair_says {c : Int32} (h0 : ¬ c < 0) (h1 : ¬ 65535 < c) : pairCh (lo8 c) (hi8 c) = c := by
  rw [Int32.lt_iff_toInt_lt] at h0 h1
  have e0 : (0 : Int32).toInt = 0 := rfl
  have e1 : (65535 : Int32).toInt = 65535 := rfl
  have hc : c.toInt = c.toBitVec.toNat := by
    have := c.toBitVec.isLt
    have e : c.toInt = c.toBitVec.toInt := rfl
    rw [e] at h0 h1
    rw [e]
    rw [BitVec.toInt_eq_toNat_cond] at h0 h1 ⊢
    split at h0 <;> split <;> omega
  have hn : c.toBitVec.toNat < 65536 := by omega
  have a1 := lo8_and c
  have a2 : (hi8 c &&& 255).toBitVec.toNat = c.toBitVec.toNat / 256 := by
    rw [hi8, lo8_and]
    have e : ((8 : Int32) &&& 31) = 8 := by decide
    rw [e, Int32.toBitVec_shiftRight]
    have e2 : ((8 : Int32).toBitVec.smod 32) = 8#32 := by decide
    rw [e2, BitVec.sshiftRight_eq', BitVec.toNat_sshiftRight_of_msb_false (by rw [BitVec.msb_eq_false_iff_two_mul_lt]; omega)]
    show c.toBitVec.toNat >>> 8 % 256 = _
    rw [Nat.shiftRight_eq_div_pow]
    omega
  unfold pairCh
  apply Int32.toBitVec_inj.mp
  apply BitVec.eq_of_toNat_eq
  have f0 : ((0 : Int32) &&& 31) = 0 := by decide
  have f8 : ((8 : Int32) &&& 31) = 8 := by decide
  rw [f0, f8]
  have g : (((lo8 c &&& 255) <<< (0 : Int32)) ||| ((hi8 c &&& 255) <<< (8 : Int32))).toBitVec.toNat = c.toBitVec.toNat := by
    rw [Int32.toBitVec_or, Int32.toBitVec_shiftLeft, Int32.toBitVec_shiftLeft]
    have s0 : ((0 : Int32).toBitVec.smod 32) = 0#32 := by decide
    have s8 : ((8 : Int32).toBitVec.smod 32) = 8#32 := by decide
    rw [s0, s8, BitVec.toNat_or]
    simp only [BitVec.shiftLeft_eq', BitVec.toNat_shiftLeft, a1, a2]
    show (c.toBitVec.toNat % 256) <<< 0 % 2 ^ 32 ||| (c.toBitVec.toNat / 256) <<< 8 % 2 ^ 32 = _
    rw [Nat.shiftLeft_zero, Nat.mod_eq_of_lt (show c.toBitVec.toNat % 256 < 2 ^ 32 by omega), Nat.mod_eq_of_lt (show (c.toBitVec.toNat / 256) <<< 8 < 2 ^ 32 by rw [Nat.shiftLeft_eq]; omega), Nat.or_comm, ← Nat.shiftLeft_add_eq_or_of_lt (by omega), Nat.shiftLeft_eq]
    omega
  show BitVec.toNat (((((lo8 c &&& 255) <<< (0 : Int32)) ||| ((hi8 c &&& 255) <<< (8 : Int32))).toBitVec.setWidth 16).setWidth 32) = _
  rw [BitVec.toNat_setWidth, BitVec.toNat_setWidth, g]
  omega
end StrChars
namespace StrChars
open Jvm Sem ClassFile Op Lib Jvm.Stand Jvm.Free.XT Jvm.Free.ALB Jvm.Free.JM Jvm.Free
open Jvm.Lib.Cold (StaticIs)
theorem shr1 {n : Nat} (h : 2 * n < 2 ^ 31) : Int32.ofNat (2 * n) >>> ((1 : Int32) &&& 31) = Int32.ofNat n := by
  have e : ((1 : Int32) &&& 31) = 1 := by decide
  rw [e]
  apply Int32.toBitVec_inj.mp
  rw [Int32.toBitVec_shiftRight]
  have e1 : ((1 : Int32).toBitVec.smod 32) = 1#32 := by decide
  have hm : (BitVec.ofNat 32 (2 * n)).toNat = 2 * n := by rw [BitVec.toNat_ofNat, Nat.mod_eq_of_lt (by omega)]
  rw [e1, BitVec.sshiftRight_eq']
  apply BitVec.eq_of_toNat_eq
  show ((BitVec.ofNat 32 (2 * n)).sshiftRight 1).toNat = (BitVec.ofNat 32 n).toNat
  rw [BitVec.toNat_sshiftRight_of_msb_false (by rw [BitVec.msb_eq_false_iff_two_mul_lt, hm]; omega), hm, BitVec.toNat_ofNat, Nat.shiftRight_eq_div_pow]
  omega
/-- charAt's cast of a byte read back -/
def chr8 (u : Int32) : Int32 := (u &&& 255).toUInt32.toUInt16.toUInt32.toInt32
theorem chr8_lo8 {c : Int32} (h0 : ¬ c < 0) (h1 : ¬ 255 < c) : chr8 (lo8 c) = c := by
  have t : ∀ k : Fin 256, (Int32.ofNat k.val).toUInt32.toUInt16.toUInt32.toInt32 = Int32.ofNat k.val := by decide +kernel
  unfold chr8
  rw [lo8_mask h0 h1]
  rw [Int32.lt_iff_toInt_lt] at h0 h1
  have e0 : (0 : Int32).toInt = 0 := rfl
  have e1 : (255 : Int32).toInt = 255 := rfl
  obtain ⟨k, hk⟩ : ∃ k : Nat, c.toInt = k := ⟨c.toInt.toNat, by omega⟩
  have hx : c = Int32.ofNat k := Int32.toInt_inj.mp (by rw [hk, Int32.toInt_ofNat_small (by omega)])
  rw [hx]
  exact t ⟨k, by omega⟩
theorem narrow_ch {c : Int32} (h0 : ¬ c < 0) (h1 : ¬ 65535 < c) : narrow .char (.int c) = .int c := by
  have q : narrow .char (.int (pairCh (lo8 c) (hi8 c))) = .int (pairCh (lo8 c) (hi8 c)) := narrow_c _
  rwa [pair_says h0 h1] at q
/-- the array's cell V codes the n chars f 0 .. f (n - 1) by the coder cd, as the JDK does: coder 1 just where some char is above 255 -/
def Cod (cd : Int32) (n : Nat) (f : Nat → Int32) (V : Cell) : Prop := (cd = 0 ∧ V.slots.size = n ∧ ∀ j, j < n → V.slots[j]? = some (.int (lo8 (f j))) ∧ ¬ 255 < f j) ∨ (cd = 1 ∧ V.slots.size = 2 * n ∧ (∀ j, j < n → V.slots[2 * j]? = some (.int (lo8 (f j))) ∧ V.slots[2 * j + 1]? = some (.int (hi8 (f j)))) ∧ ∃ j, j < n ∧ 255 < f j)
theorem Cod.cd {cd : Int32} {n : Nat} {f : Nat → Int32} {V : Cell} (h : Cod cd n f V) : cd = 0 ∨ cd = 1 := h.imp (fun q => q.1) fun q => q.1
theorem Cod.len {cd : Int32} {n : Nat} {f : Nat → Int32} {V : Cell} (h : Cod cd n f V) (hs : V.slots.size < 2 ^ 31) : Int32.ofNat V.slots.size >>> (cd &&& 31) = Int32.ofNat n := by
  rcases h with ⟨rfl, h, -⟩ | ⟨rfl, h, -⟩
  · rw [shr0, h]
  · rw [h, shr1 (by omega)]
/-- **x is a String of the n chars f 0 .. f (n - 1)**, Latin-1 or UTF-16; its array at t has the cell V -/
def Txt (x t : Addr) (V : Cell) (cd : Int32) (n : Nat) (f : Nat → Int32) (U : State) : Prop := Exact "java/lang/String" x U ∧ Has x "java/lang/String" "value" "[B" (.ref t) U ∧ Has x "java/lang/String" "coder" "B" (.int cd) U ∧ XT.Arr .byte t V U ∧ Cod cd n f V ∧ ∀ j, j < n → ¬ f j < 0 ∧ ¬ 65535 < f j
theorem Txt.mv {x t : Addr} {V : Cell} {cd : Int32} {n : Nat} {f : Nat → Int32} {U U' : State} (h : Txt x t V cd n f U) (hal : U.vm.Alike U'.vm) (hh : U'.heap = U.heap) : Txt x t V cd n f U' := ⟨h.1.mv hal hh, h.2.1.mv hal hh, h.2.2.1.mv hal hh, h.2.2.2.1.mv hal hh, h.2.2.2.2⟩
namespace Cdr
def yN : MethodName := ⟨"java/lang/String", "coder", "()B"⟩
abbrev yB : ByteArray := jdk_42_method_152_code
theorem d0 : decode yB 0 = .ok (.getstatic 38, 3) := by decide +kernel
theorem d3 : decode yB 3 = .ok (.ifCond (.eq) 10, 3) := by decide +kernel
theorem d6 : decode yB 6 = .ok (.aload_n 0, 1) := by decide +kernel
theorem d7 : decode yB 7 = .ok (.getfield 15, 3) := by decide +kernel
theorem d10 : decode yB 10 = .ok (.goto 4, 3) := by decide +kernel
theorem d14 : decode yB 14 = .ok (.ireturn, 1) := by decide +kernel
def site : List Cond := [.fieldLink "java/lang/String" 38 "java/lang/String" "COMPACT_STRINGS" "Z", .fieldLink "java/lang/String" 15 "java/lang/String" "coder" "B"]
def tab : Cond := tabOf yN yB 1 (some .byte) site
def P (x : Addr) (cd z : Int32) (args : Array Value) (s : State) : Prop := args = #[.ref x] ∧ Has x "java/lang/String" "coder" "B" (.int cd) s ∧ (cd = 0 ∨ cd = 1) ∧ StaticIs s "java/lang/String" "COMPACT_STRINGS" "Z" (.int z) ∧ ¬ z = 0
def E (cd : Int32) (r : Option Value) (s u : State) : Prop := XT.PureE (some (.int cd)) r s u
theorem law (l : Launch) (x : Addr) (cd z : Int32) : Law l yN 1 0 0 0 yB 1 (some .byte) site (P x cd z) (E cd) [] 0 0 := by
  refine Law.of_walk (plainFor_of_name (by decide +kernel)) (by decide +kernel) (by decide +kernel) (by decide) (fun _ _ h => by rw [h.1]; rfl) (fun _ U U' hal hh h => ⟨h.1, h.2.1.mv hal hh, h.2.2.1, h.2.2.2.1.there hal hh, h.2.2.2.2⟩) (fun r U U' V V' h1 hal h2 h => XT.PureE.mv r U U' V V' h1 hal h2 h) ?_
  intro p e s m args below meth c s₁ X0 hexec hbytes hml hret hlk hnm hown hh0 W hP
  obtain ⟨rfl, hx, hc, s1, hz⟩ := hP
  have c1 : Steps p.tables e below (s₁.setTop (entryFrame m #[.ref x] 1)) (s₁.setTop (mkF m 0 #[.val (.ref x)] [])) := entry rfl
  obtain ⟨T2, X2, q2, st2⟩ := X0.sget hexec hown (wk W (.fieldLink "java/lang/String" 38 "java/lang/String" "COMPACT_STRINGS" "Z")) s1 (fun _ _ h => by rw [hh0]; exact h) (g := (mkF m 0 #[.val (.ref x)] [])) rfl (hb hbytes d0)
  have hh2 := q2.trans hh0
  have c3 : Steps p.tables e below (s₁.setTop (entryFrame m #[.ref x] 1)) (T2.setTop (mkF m 7 #[.val (.ref x)] [.ref x])) := (c1.trans (st2 _ (Steps.refl _))).trans (by
    refine XS.ifNo X2.here hexec rfl (hb hbytes d3) rfl (i0_eq_f hz) ?_
    refine XS.aloadN X2.here hexec rfl (hb hbytes d6) rfl rfl ?_
    exact Steps.refl _)
  obtain ⟨T4, X4, q4, st4⟩ := X2.hget hexec hown (wk W (.fieldLink "java/lang/String" 15 "java/lang/String" "coder" "B")) (hx.mv X2.warmed.alike hh2) (g := (mkF m 7 #[.val (.ref x)] [.ref x])) rfl (rest := []) rfl (hb hbytes d7)
  have c5 : Steps p.tables e below (s₁.setTop (entryFrame m #[.ref x] 1)) (T4.setTop (mkF m 14 #[.val (.ref x)] [.int cd])) := (c3.trans (st4 _ (Steps.refl _))).trans (by
    refine XS.goto X4.here hexec rfl (pc0 := 10) rfl (hb hbytes d10) (by decide) rfl ?_
    exact Steps.refl _)
  exact ⟨T4, some (.int cd), _, _, _, X4, rfl, rfl, rfl, (fun h => by cases h), ⟨rfl, q4.trans hh2⟩, fun fs hl => c5.trans (X4.ireturnOut hexec hret (by rcases hc with rfl | rfl <;> rfl) (Or.inr (Or.inr (Or.inl rfl))) (hb hbytes d14) hl)⟩
end Cdr
namespace Len
def yN : MethodName := ⟨"java/lang/String", "length", "()I"⟩
abbrev yB : ByteArray := jdk_42_method_54_code
theorem d0 : decode yB 0 = .ok (.aload_n 0, 1) := by decide +kernel
theorem d1 : decode yB 1 = .ok (.getfield 9, 3) := by decide +kernel
theorem d4 : decode yB 4 = .ok (.arraylength, 1) := by decide +kernel
theorem d5 : decode yB 5 = .ok (.aload_n 0, 1) := by decide +kernel
theorem d6 : decode yB 6 = .ok (.invokevirtual 335, 3) := by decide +kernel
theorem d9 : decode yB 9 = .ok (.ishr, 1) := by decide +kernel
theorem d10 : decode yB 10 = .ok (.ireturn, 1) := by decide +kernel
def site : List Cond := [.fieldLink "java/lang/String" 9 "java/lang/String" "value" "[B", Cdr.tab] ++ virtW "java/lang/String" 335 "java/lang/String" Cdr.yN Cdr.yN
def tab : Cond := tabOf yN yB 1 (some .int) site
def P (x t : Addr) (V : Cell) (cd : Int32) (n : Nat) (f : Nat → Int32) (z : Int32) (args : Array Value) (s : State) : Prop := args = #[.ref x] ∧ Txt x t V cd n f s ∧ StaticIs s "java/lang/String" "COMPACT_STRINGS" "Z" (.int z) ∧ ¬ z = 0
def E (n : Nat) (r : Option Value) (s u : State) : Prop := XT.PureE (some (.int (Int32.ofNat n))) r s u
/-- length() of a String of n chars, in either coding -/
theorem law (l : Launch) (x t : Addr) (V : Cell) (cd : Int32) (n : Nat) (f : Nat → Int32) (z : Int32) : Law l yN 1 0 1 13 yB 1 (some .int) site (P x t V cd n f z) (E n) [] 0 0 := by
  refine Law.of_walk (plainFor_of_name (by decide +kernel)) (by decide +kernel) (by decide +kernel) (by decide) (fun _ _ h => by rw [h.1]; rfl) (fun _ U U' hal hh h => ⟨h.1, h.2.1.mv hal hh, h.2.2.1.there hal hh, h.2.2.2⟩) (fun r U U' V V' h1 hal h2 h => XT.PureE.mv r U U' V V' h1 hal h2 h) ?_
  intro p e s m args below meth c s₁ X0 hexec hbytes hml hret hlk hnm hown hh0 W hP
  obtain ⟨rfl, hx, s1, hz⟩ := hP
  have v31 := hx.2.2.2.1.2.2.2
  have c1 : Steps p.tables e below (s₁.setTop (entryFrame m #[.ref x] 1)) (s₁.setTop (mkF m 1 #[.val (.ref x)] [.ref x])) := Steps.trans (entry rfl) (by
    show Steps p.tables e below (s₁.setTop (mkF m 0 #[.val (.ref x)] [])) _
    refine XS.aloadN X0.here hexec rfl (hb hbytes d0) rfl rfl ?_
    exact Steps.refl _)
  obtain ⟨T2, X2, q2, st2⟩ := X0.hget hexec hown (wk W (.fieldLink "java/lang/String" 9 "java/lang/String" "value" "[B")) (hx.mv X0.warmed.alike hh0).2.1 (g := (mkF m 1 #[.val (.ref x)] [.ref x])) rfl (rest := []) rfl (hb hbytes d1)
  have hh2 := q2.trans hh0
  have hx2 := hx.mv X2.warmed.alike hh2
  have c3 : Steps p.tables e below (s₁.setTop (entryFrame m #[.ref x] 1)) (T2.setTop (mkF m 6 #[.val (.ref x)] [.ref x, .int (Int32.ofNat V.slots.size)])) := (c1.trans (st2 _ (Steps.refl _))).trans (by
    refine X2.alen hexec hx2.2.2.2.1 rfl rfl (hb hbytes d4) ?_
    refine XS.aloadN X2.here hexec rfl (hb hbytes d5) rfl rfl ?_
    exact Steps.refl _)
  obtain ⟨v4, T4, X4, E4, g4⟩ := X2.callV hexec (Cdr.law l x cd z) hown (wks W (virtW "java/lang/String" 335 "java/lang/String" Cdr.yN Cdr.yN)) rfl (by decide) (wk W Cdr.tab) (W := 1) (Nat.le_of_ble_eq_true rfl) (Nat.le_of_ble_eq_true rfl) (Nat.le_refl _) (Nat.le_refl _) (hx2.1.fc X2.warmed.alike) hx2.1.is (g := (mkF m 6 #[.val (.ref x)] [.ref x, .int (Int32.ofNat V.slots.size)])) rfl (by rw [hml]; rfl) c3 (argsL := []) (rest := [.int (Int32.ofNat V.slots.size)]) rfl rfl (by show 2 * 0 + (1 + 0) ≤ _; decide) (hb hbytes d6) (⟨rfl, hx2.2.2.1, hx.2.2.2.2.1.cd, s1.there X2.warmed.alike hh2, hz⟩)
  obtain ⟨rfl, q4⟩ := E4
  have c5 : Steps p.tables e below (s₁.setTop (entryFrame m #[.ref x] 1)) (T4.setTop (mkF m 10 #[.val (.ref x)] [.int (Int32.ofNat V.slots.size >>> (cd &&& 31))])) := Steps.trans g4 (by
    refine ishr X4.here hexec rfl (hb hbytes d9) rfl ?_
    exact Steps.refl _)
  rw [hx.2.2.2.2.1.len v31] at c5
  exact ⟨T4, some (.int (Int32.ofNat n)), _, _, _, X4, rfl, rfl, rfl, (fun h => by cases h), ⟨rfl, q4.trans hh2⟩, fun fs hl => c5.trans (X4.ireturnOut hexec hret rfl (Or.inl rfl) (hb hbytes d10) hl)⟩
theorem pays {l : Launch} {R : Room} {p : Program} {e : Env} {below : List Frame} {s : State} {sargs : Array Value} {len W : Nat} (x t : Addr) (V : Cell) (cd : Int32) (n : Nat) (f : Nat → Int32) (z : Int32) (htab : tab.before sargs s = true) (hfr : 2 ≤ R.frames) (hlo : W + 25 ≤ R.locals) :
    Back l R p e below s sargs yN len W (fun A₁ a₁ => A₁.cells + 0 ≤ R.cells ∧ A₁.slots + 0 ≤ R.slots ∧ P x t V cd n f z a₁ A₁.U) (fun A₁ _ v₁ B₁ => E n v₁ A₁.U B₁.U ∧ B₁.locs = A₁.locs ++ [] ∧ B₁.cells = A₁.cells + 0 ∧ B₁.slots = A₁.slots + 0) :=
  (law l x t V cd n f z).pays htab hfr (by omega)
end Len
namespace IsL
def yN : MethodName := ⟨"java/lang/String", "isLatin1", "()Z"⟩
abbrev yB : ByteArray := jdk_42_method_154_code
theorem d0 : decode yB 0 = .ok (.getstatic 38, 3) := by decide +kernel
theorem d3 : decode yB 3 = .ok (.ifCond (.eq) 14, 3) := by decide +kernel
theorem d6 : decode yB 6 = .ok (.aload_n 0, 1) := by decide +kernel
theorem d7 : decode yB 7 = .ok (.getfield 15, 3) := by decide +kernel
theorem d10 : decode yB 10 = .ok (.ifCond (.ne) 7, 3) := by decide +kernel
theorem d13 : decode yB 13 = .ok (.iconst 1, 1) := by decide +kernel
theorem d14 : decode yB 14 = .ok (.goto 4, 3) := by decide +kernel
theorem d17 : decode yB 17 = .ok (.iconst 0, 1) := by decide +kernel
theorem d18 : decode yB 18 = .ok (.ireturn, 1) := by decide +kernel
def site : List Cond := [.fieldLink "java/lang/String" 38 "java/lang/String" "COMPACT_STRINGS" "Z", .fieldLink "java/lang/String" 15 "java/lang/String" "coder" "B"]
def tab : Cond := tabOf yN yB 1 (some .boolean) site
def P (x : Addr) (cd z : Int32) (args : Array Value) (s : State) : Prop := args = #[.ref x] ∧ Has x "java/lang/String" "coder" "B" (.int cd) s ∧ (cd = 0 ∨ cd = 1) ∧ StaticIs s "java/lang/String" "COMPACT_STRINGS" "Z" (.int z) ∧ ¬ z = 0
def E (cd : Int32) (r : Option Value) (s u : State) : Prop := XT.PureE (some (.int (1 - cd))) r s u
theorem law (l : Launch) (x : Addr) (cd z : Int32) : Law l yN 1 0 0 0 yB 1 (some .boolean) site (P x cd z) (E cd) [] 0 0 := by
  refine Law.of_walk (plainFor_of_name (by decide +kernel)) (by decide +kernel) (by decide +kernel) (by decide) (fun _ _ h => by rw [h.1]; rfl) (fun _ U U' hal hh h => ⟨h.1, h.2.1.mv hal hh, h.2.2.1, h.2.2.2.1.there hal hh, h.2.2.2.2⟩) (fun r U U' V V' h1 hal h2 h => XT.PureE.mv r U U' V V' h1 hal h2 h) ?_
  intro p e s m args below meth c s₁ X0 hexec hbytes hml hret hlk hnm hown hh0 W hP
  obtain ⟨rfl, hx, hc, s1, hz⟩ := hP
  have c1 : Steps p.tables e below (s₁.setTop (entryFrame m #[.ref x] 1)) (s₁.setTop (mkF m 0 #[.val (.ref x)] [])) := entry rfl
  obtain ⟨T2, X2, q2, st2⟩ := X0.sget hexec hown (wk W (.fieldLink "java/lang/String" 38 "java/lang/String" "COMPACT_STRINGS" "Z")) s1 (fun _ _ h => by rw [hh0]; exact h) (g := (mkF m 0 #[.val (.ref x)] [])) rfl (hb hbytes d0)
  have hh2 := q2.trans hh0
  have c3 : Steps p.tables e below (s₁.setTop (entryFrame m #[.ref x] 1)) (T2.setTop (mkF m 7 #[.val (.ref x)] [.ref x])) := (c1.trans (st2 _ (Steps.refl _))).trans (by
    refine XS.ifNo X2.here hexec rfl (hb hbytes d3) rfl (i0_eq_f hz) ?_
    refine XS.aloadN X2.here hexec rfl (hb hbytes d6) rfl rfl ?_
    exact Steps.refl _)
  obtain ⟨T4, X4, q4, st4⟩ := X2.hget hexec hown (wk W (.fieldLink "java/lang/String" 15 "java/lang/String" "coder" "B")) (hx.mv X2.warmed.alike hh2) (g := (mkF m 7 #[.val (.ref x)] [.ref x])) rfl (rest := []) rfl (hb hbytes d7)
  have c5 : Steps p.tables e below (s₁.setTop (entryFrame m #[.ref x] 1)) (T4.setTop (mkF m 10 #[.val (.ref x)] [.int cd])) := c3.trans (st4 _ (Steps.refl _))
  have c6 : Steps p.tables e below (s₁.setTop (entryFrame m #[.ref x] 1)) (T4.setTop (mkF m 18 #[.val (.ref x)] [.int (1 - cd)])) := by
    rcases hc with rfl | rfl
    · exact c5.trans (by
        refine XS.ifNo X4.here hexec rfl (hb hbytes d10) rfl (i0_ne_f rfl) ?_
        refine iconstV X4.here hexec rfl 1 (hb hbytes d13) (by decide) ?_
        refine XS.goto X4.here hexec rfl (pc0 := 14) rfl (hb hbytes d14) (by decide) rfl ?_
        exact Steps.refl _)
    · exact c5.trans (by
        refine XS.ifYes X4.here hexec rfl (pc0 := 10) rfl (hb hbytes d10) rfl (i0_ne_t (by decide)) (by decide) rfl ?_
        refine iconstV X4.here hexec rfl 0 (hb hbytes d17) (by decide) ?_
        exact Steps.refl _)
  exact ⟨T4, some (.int (1 - cd)), _, _, _, X4, rfl, rfl, rfl, (fun h => by cases h), ⟨rfl, q4.trans hh2⟩, fun fs hl => c6.trans (X4.ireturnOut hexec hret (by rcases hc with rfl | rfl <;> rfl) (Or.inr (Or.inl rfl)) (hb hbytes d18) hl)⟩
end IsL
namespace LChA
def yN : MethodName := ⟨"java/lang/StringLatin1", "charAt", "([BI)C"⟩
abbrev yB : ByteArray := jdk_43_method_2_code
theorem d0 : decode yB 0 = .ok (.iload_n 1, 1) := by decide +kernel
theorem d1 : decode yB 1 = .ok (.aload_n 0, 1) := by decide +kernel
theorem d2 : decode yB 2 = .ok (.arraylength, 1) := by decide +kernel
theorem d3 : decode yB 3 = .ok (.invokestatic 9, 3) := by decide +kernel
theorem d6 : decode yB 6 = .ok (.aload_n 0, 1) := by decide +kernel
theorem d7 : decode yB 7 = .ok (.iload_n 1, 1) := by decide +kernel
theorem d8 : decode yB 8 = .ok (.baload, 1) := by decide +kernel
theorem d9 : decode yB 9 = .ok (.sipush 255, 3) := by decide +kernel
theorem d12 : decode yB 12 = .ok (.iand, 1) := by decide +kernel
theorem d13 : decode yB 13 = .ok (.i2c, 1) := by decide +kernel
theorem d14 : decode yB 14 = .ok (.ireturn, 1) := by decide +kernel
def site : List Cond := [JO.Str_checkIndex.tab] ++ staticW "java/lang/StringLatin1" 9 JO.Str_checkIndex.yN
def tab : Cond := tabOf yN yB 2 (some .char) site
def P (t : Addr) (V : Cell) (i : Nat) (u : Int32) (fm : Value) (args : Array Value) (s : State) : Prop := args = #[.ref t, .int (Int32.ofNat i)] ∧ XT.Arr .byte t V s ∧ V.slots[i]? = some (.int u) ∧ (StaticIs s "jdk/internal/util/Preconditions" "SIOOBE_FORMATTER" "Ljava/util/function/BiFunction;" fm ∧ fm.isRef = true)
def E (u : Int32) (r : Option Value) (s w : State) : Prop := XT.PureE (some (.int (chr8 u))) r s w
theorem law (l : Launch) (t : Addr) (V : Cell) (i : Nat) (u : Int32) (fm : Value) : Law l yN 2 2 2 27 yB 2 (some .char) site (P t V i u fm) (E u) [] 0 0 := by
  refine Law.of_walk (plainFor_of_name (by decide +kernel)) (by decide +kernel) (by decide +kernel) (by decide) (fun _ _ h => by rw [h.1]; rfl) (fun _ U U' hal hh h => ⟨h.1, h.2.1.mv hal hh, h.2.2.1, h.2.2.2.1.there hal hh, h.2.2.2.2⟩) (fun r U U' V V' h1 hal h2 h => XT.PureE.mv r U U' V V' h1 hal h2 h) ?_
  intro p e s m args below meth c s₁ X0 hexec hbytes hml hret hlk hnm hown hh0 W hP
  obtain ⟨rfl, hV, hu, s1, rf⟩ := hP
  have v31 := hV.2.2.2
  have hi : i < V.slots.size := (Array.getElem?_eq_some_iff.mp hu).1
  have c1 : Steps p.tables e below (s₁.setTop (entryFrame m #[.ref t, .int (Int32.ofNat i)] 2)) (s₁.setTop (mkF m 0 #[.val (.ref t), .val (.int (Int32.ofNat i))] [])) := entry rfl
  have c2 : Steps p.tables e below (s₁.setTop (entryFrame m #[.ref t, .int (Int32.ofNat i)] 2)) (s₁.setTop (mkF m 3 #[.val (.ref t), .val (.int (Int32.ofNat i))] [.int (Int32.ofNat V.slots.size), .int (Int32.ofNat i)])) := c1.trans (by
    refine XS.iloadN X0.here hexec rfl (hb hbytes d0) rfl ?_
    refine XS.aloadN X0.here hexec rfl (hb hbytes d1) rfl rfl ?_
    refine X0.alen hexec (hV.mv X0.warmed.alike hh0) rfl rfl (hb hbytes d2) ?_
    exact Steps.refl _)
  obtain ⟨v3, T3, X3, E3, g3⟩ := X0.callS hexec (JO.Str_checkIndex.law l (Int32.ofNat i) (Int32.ofNat V.slots.size) fm) hown (wks W (staticW "java/lang/StringLatin1" 9 JO.Str_checkIndex.yN)) (wk W JO.Str_checkIndex.tab) (W := 0) (Nat.le_of_ble_eq_true rfl) (Nat.le_of_ble_eq_true rfl) (Nat.le_refl _) (Nat.le_refl _) (g := (mkF m 3 #[.val (.ref t), .val (.int (Int32.ofNat i))] [.int (Int32.ofNat V.slots.size), .int (Int32.ofNat i)])) rfl (by rw [hml]; rfl) c2 (argsL := [.int (Int32.ofNat i), .int (Int32.ofNat V.slots.size)]) (rest := []) rfl rfl (by show 2 * 0 + 0 ≤ _; decide) (hb hbytes d3) (⟨rfl, rf, s1.there X0.warmed.alike hh0, Int32.ofNat_not_neg (by omega), lt32 v31 hi⟩)
  obtain ⟨rfl, q3⟩ := E3
  have hh3 := q3.trans hh0
  have c4 : Steps p.tables e below (s₁.setTop (entryFrame m #[.ref t, .int (Int32.ofNat i)] 2)) (T3.setTop (mkF m 14 #[.val (.ref t), .val (.int (Int32.ofNat i))] [.int (chr8 u)])) := Steps.trans g3 (by
    refine XS.aloadN X3.here hexec rfl (hb hbytes d6) rfl rfl ?_
    refine XS.iloadN X3.here hexec rfl (hb hbytes d7) rfl ?_
    refine X3.aget hexec (hV.mv X3.warmed.alike hh3) rfl hu rfl rfl (hb hbytes d8) ?_
    refine sipushV X3.here hexec rfl 255 (hb hbytes d9) (by decide) ?_
    refine XS.iand X3.here hexec rfl (hb hbytes d12) rfl ?_
    refine i2c X3.here hexec rfl (hb hbytes d13) rfl ?_
    exact Steps.refl _)
  exact ⟨T3, some (.int (chr8 u)), _, _, _, X3, rfl, rfl, rfl, (fun h => by cases h), ⟨rfl, hh3⟩, fun fs hl => c4.trans (X3.ireturnOut hexec hret (narrow_c _) (Or.inr (Or.inr (Or.inr (Or.inl rfl)))) (hb hbytes d14) hl)⟩
end LChA
end StrChars
namespace StrChars.Road
open Jvm Sem ClassFile Op Lib Jvm.Stand Jvm.Free Jvm.Free.XT
open Jvm.Lib.Cold (StaticIs)
theorem consq {a : Array Value} {s : State} {c : Jvm.Cond} {L : List Jvm.Cond} (h0 : c.before a s = true) (h : ∀ w ∈ L, w.before a s = true) : ∀ w ∈ c :: L, w.before a s = true := fun w hw => (List.mem_cons.mp hw).elim (fun e => e ▸ h0) (h w)
/-- the words of String.length(), either coding -/
abbrev wordsLen : List Jvm.Cond := [.code Len.yN Len.yB 1 (some .int), .initialized ST, .fieldLink ST 9 ST "value" "[B", .fieldLink ST 38 ST "COMPACT_STRINGS" "Z", .fieldLink ST 15 ST "coder" "B", .code Cdr.yN Cdr.yB 1 (some .byte), .methodLink ST 335 Cdr.yN, .declares Cdr.yN, .selects ST Cdr.yN Cdr.yN, .instanceMethod Cdr.yN]
theorem tabLen_of {a : Array Value} {s : State} (h : ∀ w ∈ wordsLen, w.before a s = true) : Len.tab.before a s = true := by
  have hc : Cdr.tab.before a s = true := unparts (wk h (.code Cdr.yN Cdr.yB 1 (some .byte))) (wks h (.initialized Cdr.yN.cls :: Cdr.site))
  have q := consq hc h
  exact unparts (wk q (.code Len.yN Len.yB 1 (some .int))) (wks q (.initialized Len.yN.cls :: Len.site))
theorem movedLen {Z s : State} {a0 args : Array Value} (hZ : Z.Warmed39 s.vm) (hw : ∀ d ∈ wordsLen, d.before a0 Z = true) : ∀ d ∈ wordsLen, d.before args s = true := fun d hd => by
  have q := hw d hd
  have t : ∀ d ∈ wordsLen, d = .arrayClass .byte ∨ (d.onTables && d.keepsFace) = true := by decide +kernel
  rcases t d hd with rfl | t
  · exact RoadKit.mvA hZ q
  · exact RoadKit.mv hZ q t
/-- the bytes of the chars cs, low before high -/
def wideBytes : List Int32 → List Value
  | [] => []
  | c :: cs => .int (lo8 c) :: .int (hi8 c) :: wideBytes cs
theorem wide_lo (d : Value) : ∀ (cs : List Int32) (j : Nat), j < cs.length → (wideBytes cs).getD (2 * j) d = .int (lo8 (cs.getD j 0))
  | [], j, h => absurd h (Nat.not_lt_zero j)
  | c :: cs, 0, _ => rfl
  | c :: cs, j + 1, h => by
    have q := wide_lo d cs j (by simpa using h)
    rw [show 2 * (j + 1) = 2 * j + 1 + 1 from by omega]
    simpa [wideBytes] using q
theorem wide_hi (d : Value) : ∀ (cs : List Int32) (j : Nat), j < cs.length → (wideBytes cs).getD (2 * j + 1) d = .int (hi8 (cs.getD j 0))
  | [], j, h => absurd h (Nat.not_lt_zero j)
  | c :: cs, 0, _ => rfl
  | c :: cs, j + 1, h => by
    have q := wide_hi d cs j (by simpa using h)
    rw [show 2 * (j + 1) + 1 = 2 * j + 1 + 1 + 1 from by omega]
    simpa [wideBytes] using q
theorem low_at (d : Value) (cs : List Int32) (j : Nat) (h : j < cs.length) : (cs.map fun c => Value.int (lo8 c)).getD j d = .int (lo8 (cs.getD j 0)) := by
  simp [List.getD_eq_getElem?_getD, h]
/-- an array of N2 bytes vs codes the chars cs by the coder cd -/
def CodA (cs : List Int32) (cd N2 : Int32) (vs : List Value) : Prop := (cd = 0 ∧ N2 = Int32.ofNat cs.length ∧ vs = (cs.map fun c => Value.int (lo8 c)) ∧ ∀ c ∈ cs, ¬ 255 < c) ∨ (cd = 1 ∧ N2 = Int32.ofNat (2 * cs.length) ∧ vs = wideBytes cs ∧ ∃ c ∈ cs, 255 < c)
theorem CodA.cod {cs : List Int32} {cd N2 : Int32} {vs : List Value} {V : Cell} (h : CodA cs cd N2 vs) (hn : 2 * cs.length < 2 ^ 31) (hs : V.slots.size = N2.toNatClampNeg) (hv : RoadKit.Has V vs (.int 0)) : Cod cd cs.length (fun j => cs.getD j 0) V := by
  rcases h with ⟨rfl, rfl, rfl, h⟩ | ⟨rfl, rfl, rfl, c, hc, hw⟩
  · rw [n32 (by omega)] at hs
    exact Or.inl ⟨rfl, hs, fun j hj => ⟨by rw [hv j (by omega), low_at _ _ _ hj], by
      have e : cs.getD j 0 = cs[j] := by simp [List.getD_eq_getElem?_getD, hj]
      show ¬ 255 < cs.getD j 0
      rw [e]; exact h _ (List.getElem_mem _)⟩⟩
  · rw [n32 (by omega)] at hs
    obtain ⟨j, hj, rfl⟩ := List.getElem_of_mem hc
    exact Or.inr ⟨rfl, hs, fun j hj => ⟨by rw [hv _ (by omega), wide_lo _ _ _ hj], by rw [hv _ (by omega), wide_hi _ _ _ hj]⟩, j, hj, by
      have e : cs.getD j 0 = cs[j] := by simp [List.getD_eq_getElem?_getD, hj]
      show 255 < cs.getD j 0
      rw [e]; exact hw⟩
/-- an object of exactly java/lang/String, its two fields found: as the laws ask it -/
theorem strObj {Z U : State} {a0 : Array Value} {kI : Nat} (wi : (Jvm.Cond.instantiable ST kI).before a0 Z = true) (al : Z.vm.Alike U.vm) {x : Addr} {v0 c0 : Value} (E : RoadKit.Exa Z U.heap x ST) (V : RoadKit.Fld Z U.heap x ST "value" "[B" v0) (C : RoadKit.Fld Z U.heap x ST "coder" "B" c0) :
    ∃ (D : Cell) (fV fC : Field), Blank ST x D U ∧ Found ST "value" "[B" fV U ∧ Found ST "coder" "B" fC U ∧ D.slots[fV.slot]? = some v0 ∧ D.slots[fC.slot]? = some c0 ∧ RoadKit.slotOf Z ST "value" "[B" = fV.slot ∧ RoadKit.slotOf Z ST "coder" "B" = fC.slot := by
  obtain ⟨D, cfV, kV, iV, fV, hD, gV, stV, knV, obV, asV, slV⟩ := V
  obtain ⟨D', cfC, kC, iC, fC, hD', gC, stC, -, -, asC, slC⟩ := C
  cases hD.symm.trans hD'
  obtain ⟨D2, kD, e1, e2, e3, e4, e5⟩ := E
  cases hD.symm.trans e1
  obtain ⟨c2, k2, i1, i2, i3, -⟩ := Cond.instantiable_spec wi
  cases e2.symm.trans i1
  cases e3.symm.trans i2
  obtain ⟨kU, u1, u2⟩ := al.2.2 _ _ e3
  exact ⟨D, fV, fC, ⟨hD, ⟨knV, fun q hq => by rw [hq] at obV; cases obV⟩, by rw [al.findClass]; exact e2, kU, u1, by rw [u2]; exact i3, by rw [u2]; exact e5 i3⟩, ⟨SBG.found_only al ⟨cfV, kV, iV, gV⟩, stV⟩, ⟨SBG.found_only al ⟨cfC, kC, iC, gC⟩, stC⟩, slV, slC, by simp [RoadKit.slotOf, gV], by simp [RoadKit.slotOf, gC]⟩
theorem sta_is {Z U : State} (al : Z.vm.Alike U.vm) {C n d : String} {v : Value} (S : RoadKit.Sta Z U.heap C n d v) : StaticIs U C n d v := by
  obtain ⟨cfS, iS, kS, fS, st, cS, t1, t2, t3, t4, t5, t6, t7⟩ := S
  exact StaticIs.there (s := { Z with heap := U.heap }) ⟨cfS, iS, kS, fS, st, cS, t1, t2, t3, t4, t5, (fun q => by rw [q] at t6; cases t6), t7⟩ al rfl
/-- **length() OF SUCH A STRING** -/
theorem lenW {p : Program} {l : Launch} {e : Env} {R : Room} {s : State} {args : Array Value} {below : List Frame} {len W : Nat} {Z : State} {a0 : Array Value} {h : Heap} (hZ : Z.Warmed39 s.vm) (hw : ∀ d ∈ wordsLen, d.before a0 Z = true) {kI : Nat} (wi : (Jvm.Cond.instantiable ST kI).before a0 Z = true)
    {x t : Addr} {kb : ClassId} {cs : List Int32} {cd N2 z : Int32} {vs : List Value} (E : RoadKit.Exa Z h x ST) (V : RoadKit.Fld Z h x ST "value" "[B" (.ref t)) (C : RoadKit.Fld Z h x ST "coder" "B" (.int cd)) (K : RoadKit.Arv Z h t kb .byte N2 vs (.int 0)) (hc : CodA cs cd N2 vs) (hb : ∀ c ∈ cs, ¬ c < 0 ∧ ¬ (65535 : Int32) < c)
    (S : RoadKit.Sta Z h ST "COMPACT_STRINGS" "Z" (.int z)) (hz : ¬ z = 0) (l2 : cs.length ≤ 4000) (hfr : 2 ≤ R.frames) (hlo : W + 25 ≤ R.locals) :
    Back l R p e below s args (⟨"java/lang/String", "length", "()I"⟩ : MethodName) len W (fun P a => a = #[.ref x] ∧ P.U.heap = h ∧ P.cells + 0 ≤ R.cells ∧ P.slots + 0 ≤ R.slots)
      (fun P _ v B => ∃ L, (v = some (.int (Int32.ofNat cs.length)) ∧ L = [] ∧ B.U.heap = h) ∧ B.locs = P.locs ++ L ∧ B.cells = P.cells + 0 ∧ B.slots = P.slots + 0) := by
  obtain ⟨A, K1, K2, K3, K4, K5, K6⟩ := K
  have hcod := hc.cod (by omega) K3 K5
  intro m meth c P g ig mk a X hg hsize hdg hW hn hp'
  obtain ⟨rfl, rfl, r1, r2⟩ := hp'
  have al : Z.vm.Alike P.U.vm := hZ.alike.trans X.warmed.alike
  obtain ⟨D, fV, fC, hB, F1, F2, g1, g2, -, -⟩ := strObj wi al E V C
  have hx : Txt x t A cd cs.length (fun j => cs.getD j 0) P.U := ⟨⟨_, hB.2.2.1, D, hB.1, rfl, by cases q : D.vm <;> first | rfl | exact absurd q (hB.2.1.2 _)⟩, Has.of hB F1 g1, Has.of hB F2 g2, ⟨K1.1, State.isArrayOf_alike al K1.2.1, K1.2.2, by rcases hcod with ⟨-, q, -⟩ | ⟨-, q, -⟩ <;> omega⟩, hcod, fun j hj => by
    have e : cs.getD j 0 = cs[j] := by simp [List.getD_eq_getElem?_getD, hj]
    show ¬ cs.getD j 0 < 0 ∧ ¬ 65535 < cs.getD j 0
    rw [e]; exact hb _ (List.getElem_mem _)⟩
  obtain ⟨v, B, X', ⟨⟨hv, hh⟩, hl, hk, hs⟩, st⟩ := Len.pays x t A cd cs.length (fun j => cs.getD j 0) z (tabLen_of (movedLen hZ hw)) hfr hlo m meth c P g ig mk _ X hg hsize hdg hW hn ⟨r1, r2, rfl, hx, sta_is al S, hz⟩
  exact ⟨v, B, X', ⟨[], ⟨hv, rfl, hh⟩, hl, hk, hs⟩, st⟩
end StrChars.Road
namespace StrChars
open Jvm Sem ClassFile Op Lib Jvm.Stand Jvm.Free.XT Jvm.Free.ALB Jvm.Free.JM Jvm.Free
open Jvm.Lib.Cold (StaticIs)
/-- what place i of a byte[]'s cell holds -/
def yv (A : Cell) (i : Nat) : Int32 := match A.slots[i]? with | some (.int x) => x | _ => 0
theorem yv_get {a : Addr} {A : Cell} {U : State} (h : XT.Arr .byte a A U) (ht : Typed .byte A) {i : Nat} (hi : i < A.slots.size) : A.slots[i]? = some (.int (yv A i)) := by
  have e := Array.getElem?_eq_getElem hi
  have f := ht i _ e
  unfold yv; rw [e]
  generalize A.slots[i] = v at f
  cases v <;> simp [fits] at f ⊢
/-- the two arrays are equal, place for place -/
def EqC (A B : Cell) : Prop := A.slots.size = B.slots.size ∧ ∀ i, i < A.slots.size → yv A i = yv B i
/-- a boolean that says whether p -/
def Says01 (q : Prop) (r : Option Value) (s u : State) : Prop := ∃ v : Int32, r = some (.int v) ∧ u.heap = s.heap ∧ ((v = 1 ∧ q) ∨ (v = 0 ∧ ¬ q))
theorem Says01.mv {q : Prop} : ∀ r (U U' V V' : State), U'.heap = U.heap → V.vm.Alike V'.vm → V'.heap = V.heap → Says01 q r U V → Says01 q r U' V' :=
  fun r U U' V V' h1 _ h2 ⟨v, a, b, c⟩ => ⟨v, a, by rw [h1, h2]; exact b, c⟩
namespace LEq
def yN : MethodName := ⟨"java/lang/StringLatin1", "equals", "([B[B)Z"⟩
abbrev yB : ByteArray := jdk_43_method_13_code
theorem d0 : decode yB 0 = .ok (.aload_n 0, 1) := by decide +kernel
theorem d1 : decode yB 1 = .ok (.arraylength, 1) := by decide +kernel
theorem d2 : decode yB 2 = .ok (.aload_n 1, 1) := by decide +kernel
theorem d3 : decode yB 3 = .ok (.arraylength, 1) := by decide +kernel
theorem d4 : decode yB 4 = .ok (.if_icmp (.ne) 30, 3) := by decide +kernel
theorem d7 : decode yB 7 = .ok (.iconst 0, 1) := by decide +kernel
theorem d8 : decode yB 8 = .ok (.istore_n 2, 1) := by decide +kernel
theorem d9 : decode yB 9 = .ok (.iload_n 2, 1) := by decide +kernel
theorem d10 : decode yB 10 = .ok (.aload_n 0, 1) := by decide +kernel
theorem d11 : decode yB 11 = .ok (.arraylength, 1) := by decide +kernel
theorem d12 : decode yB 12 = .ok (.if_icmp (.ge) 20, 3) := by decide +kernel
theorem d15 : decode yB 15 = .ok (.aload_n 0, 1) := by decide +kernel
theorem d16 : decode yB 16 = .ok (.iload_n 2, 1) := by decide +kernel
theorem d17 : decode yB 17 = .ok (.baload, 1) := by decide +kernel
theorem d18 : decode yB 18 = .ok (.aload_n 1, 1) := by decide +kernel
theorem d19 : decode yB 19 = .ok (.iload_n 2, 1) := by decide +kernel
theorem d20 : decode yB 20 = .ok (.baload, 1) := by decide +kernel
theorem d21 : decode yB 21 = .ok (.if_icmp (.eq) 5, 3) := by decide +kernel
theorem d24 : decode yB 24 = .ok (.iconst 0, 1) := by decide +kernel
theorem d25 : decode yB 25 = .ok (.ireturn, 1) := by decide +kernel
theorem d26 : decode yB 26 = .ok (.iinc 2 1, 3) := by decide +kernel
theorem d29 : decode yB 29 = .ok (.goto (-20), 3) := by decide +kernel
theorem d32 : decode yB 32 = .ok (.iconst 1, 1) := by decide +kernel
theorem d33 : decode yB 33 = .ok (.ireturn, 1) := by decide +kernel
theorem d34 : decode yB 34 = .ok (.iconst 0, 1) := by decide +kernel
theorem d35 : decode yB 35 = .ok (.ireturn, 1) := by decide +kernel
def site : List Cond := []
def tab : Cond := tabOf yN yB 3 (some .boolean) site
def P (a : Addr) (A : Cell) (b : Addr) (B : Cell) (args : Array Value) (s : State) : Prop := args = #[.ref a, .ref b] ∧ XT.Arr .byte a A s ∧ Typed .byte A ∧ XT.Arr .byte b B s ∧ Typed .byte B
/-- whether two byte[] are equal, place for place -/
theorem law (l : Launch) (a : Addr) (A : Cell) (b : Addr) (B : Cell) : Law l yN 2 2 0 0 yB 3 (some .boolean) site (P a A b B) (Says01 (EqC A B)) [] 0 0 := by
  refine Law.of_walk (plainFor_of_name (by decide +kernel)) (by decide +kernel) (by decide +kernel) (by decide) (fun _ _ h => by rw [h.1]; rfl) (fun _ U U' hal hh h => ⟨h.1, h.2.1.mv hal hh, h.2.2.1, h.2.2.2.1.mv hal hh, h.2.2.2.2⟩) (fun r U U' V V' h1 hal h2 h => Says01.mv r U U' V V' h1 hal h2 h) ?_
  intro p e s m args below meth c s₁ X0 hexec hbytes hml hret hlk hnm hown hh0 W hP
  obtain ⟨rfl, hA, tA, hB, tB⟩ := hP
  have a31 := hA.2.2.2
  have b31 := hB.2.2.2
  have hA0 := hA.mv X0.warmed.alike hh0
  have hB0 := hB.mv X0.warmed.alike hh0
  have c1 : Steps p.tables e below (s₁.setTop (entryFrame m #[.ref a, .ref b] 3)) (s₁.setTop (mkF m 0 #[.val (.ref a), .val (.ref b), .unset] [])) := entry rfl
  have c2 : Steps p.tables e below (s₁.setTop (entryFrame m #[.ref a, .ref b] 3)) (s₁.setTop (mkF m 4 #[.val (.ref a), .val (.ref b), .unset] [.int (Int32.ofNat B.slots.size), .int (Int32.ofNat A.slots.size)])) := c1.trans (by
    refine XS.aloadN X0.here hexec rfl (hb hbytes d0) rfl rfl ?_
    refine X0.alen hexec hA0 rfl rfl (hb hbytes d1) ?_
    refine XS.aloadN X0.here hexec rfl (hb hbytes d2) rfl rfl ?_
    refine X0.alen hexec hB0 rfl rfl (hb hbytes d3) ?_
    exact Steps.refl _)
  by_cases hs : A.slots.size = B.slots.size
  · have c3 : Steps p.tables e below (s₁.setTop (entryFrame m #[.ref a, .ref b] 3)) (s₁.setTop (mkF m 9 #[.val (.ref a), .val (.ref b), .val (.int 0)] [])) := c2.trans (by
      refine XS.icmpNo X0.here hexec rfl (hb hbytes d4) rfl (ii_ne_f (by rw [hs])) ?_
      refine iconstV X0.here hexec rfl 0 (hb hbytes d7) (by decide) ?_
      refine XS.istoreN X0.here hexec rfl (hb hbytes d8) rfl rfl ?_
      exact Steps.refl _)
    have loop : ∀ (r i : Nat), i + r = A.slots.size → (∀ j, j < i → yv A j = yv B j) → Steps p.tables e below (s₁.setTop (entryFrame m #[.ref a, .ref b] 3)) (s₁.setTop (mkF m 9 #[.val (.ref a), .val (.ref b), .val (.int (Int32.ofNat i))] [])) → ∃ (pc : Nat) (Ls : Array Slot) (v : Int32), (pc = 25 ∨ pc = 33) ∧ ((v = 1 ∧ EqC A B) ∨ (v = 0 ∧ ¬ EqC A B)) ∧ Steps p.tables e below (s₁.setTop (entryFrame m #[.ref a, .ref b] 3)) (s₁.setTop (mkF m pc Ls [.int v])) := by
      intro r
      induction r with
      | zero =>
        intro i hi he cl
        exact ⟨33, _, 1, Or.inr rfl, Or.inl ⟨rfl, hs, fun j hj => he j (by omega)⟩, cl.trans (by
          refine XS.iloadN X0.here hexec rfl (hb hbytes d9) rfl ?_
          refine XS.aloadN X0.here hexec rfl (hb hbytes d10) rfl rfl ?_
          refine X0.alen hexec hA0 rfl rfl (hb hbytes d11) ?_
          refine XS.icmpYes X0.here hexec rfl (pc0 := 12) rfl (hb hbytes d12) rfl (ii_ge_t (nlt32 (by omega) (by omega))) (by decide) rfl ?_
          refine iconstV X0.here hexec rfl 1 (hb hbytes d32) (by decide) ?_
          exact Steps.refl _)⟩
      | succ r ih =>
        intro i hi he cl
        have c4 : Steps p.tables e below (s₁.setTop (entryFrame m #[.ref a, .ref b] 3)) (s₁.setTop (mkF m 21 #[.val (.ref a), .val (.ref b), .val (.int (Int32.ofNat i))] [.int (yv B i), .int (yv A i)])) := cl.trans (by
          refine XS.iloadN X0.here hexec rfl (hb hbytes d9) rfl ?_
          refine XS.aloadN X0.here hexec rfl (hb hbytes d10) rfl rfl ?_
          refine X0.alen hexec hA0 rfl rfl (hb hbytes d11) ?_
          refine XS.icmpNo X0.here hexec rfl (hb hbytes d12) rfl (ii_ge_f (lt32 (by omega) (by omega))) ?_
          refine XS.aloadN X0.here hexec rfl (hb hbytes d15) rfl rfl ?_
          refine XS.iloadN X0.here hexec rfl (hb hbytes d16) rfl ?_
          refine X0.aget hexec hA0 rfl (yv_get hA tA (i := i) (by omega)) rfl rfl (hb hbytes d17) ?_
          refine XS.aloadN X0.here hexec rfl (hb hbytes d18) rfl rfl ?_
          refine XS.iloadN X0.here hexec rfl (hb hbytes d19) rfl ?_
          refine X0.aget hexec hB0 rfl (yv_get hB tB (i := i) (by omega)) rfl rfl (hb hbytes d20) ?_
          exact Steps.refl _)
        by_cases hv : yv A i = yv B i
        · have c5 : Steps p.tables e below (s₁.setTop (entryFrame m #[.ref a, .ref b] 3)) (s₁.setTop (mkF m 9 #[.val (.ref a), .val (.ref b), .val (.int (Int32.ofNat i + 1))] [])) := c4.trans (by
            refine XS.icmpYes X0.here hexec rfl (pc0 := 21) rfl (hb hbytes d21) rfl (ii_eq_t hv) (by decide) rfl ?_
            refine iincV X0.here hexec rfl 1 (hb hbytes d26) (by decide) rfl rfl ?_
            refine XS.goto X0.here hexec rfl (pc0 := 29) rfl (hb hbytes d29) (by decide) rfl ?_
            exact Steps.refl _)
          rw [succ32] at c5
          exact ih (i + 1) (by omega) (fun j hj => by
            by_cases e : j = i
            · rw [e]; exact hv
            · exact he j (by omega)) c5
        · exact ⟨25, _, 0, Or.inl rfl, Or.inr ⟨rfl, fun q => hv (q.2 i (by omega))⟩, c4.trans (by
            refine XS.icmpNo X0.here hexec rfl (hb hbytes d21) rfl (ii_eq_f hv) ?_
            refine iconstV X0.here hexec rfl 0 (hb hbytes d24) (by decide) ?_
            exact Steps.refl _)⟩
    obtain ⟨pc, Ls, v, hpc, hv, cz⟩ := loop A.slots.size 0 (by omega) (fun j hj => absurd hj (Nat.not_lt_zero j)) c3
    have nv : narrow .boolean (.int v) = .int v := by rcases hv with ⟨rfl, -⟩ | ⟨rfl, -⟩ <;> rfl
    rcases hpc with rfl | rfl
    · exact ⟨s₁, some (.int v), _, _, _, X0, rfl, rfl, rfl, (fun h => by cases h), ⟨v, rfl, hh0, hv⟩, fun fs hl => cz.trans (X0.ireturnOut hexec hret nv (Or.inr (Or.inl rfl)) (hb hbytes d25) hl)⟩
    · exact ⟨s₁, some (.int v), _, _, _, X0, rfl, rfl, rfl, (fun h => by cases h), ⟨v, rfl, hh0, hv⟩, fun fs hl => cz.trans (X0.ireturnOut hexec hret nv (Or.inr (Or.inl rfl)) (hb hbytes d33) hl)⟩
  · have c3 : Steps p.tables e below (s₁.setTop (entryFrame m #[.ref a, .ref b] 3)) (s₁.setTop (mkF m 35 #[.val (.ref a), .val (.ref b), .unset] [.int 0])) := c2.trans (by
      refine XS.icmpYes X0.here hexec rfl (pc0 := 4) rfl (hb hbytes d4) rfl (ii_ne_t (ne32 a31 b31 hs)) (by decide) rfl ?_
      refine iconstV X0.here hexec rfl 0 (hb hbytes d34) (by decide) ?_
      exact Steps.refl _)
    exact ⟨s₁, some (.int 0), _, _, _, X0, rfl, rfl, rfl, (fun h => by cases h), ⟨0, rfl, hh0, Or.inr ⟨rfl, fun q => hs q.1⟩⟩, fun fs hl => c3.trans (X0.ireturnOut hexec hret rfl (Or.inr (Or.inl rfl)) (hb hbytes d35) hl)⟩
end LEq
theorem Cod.ty {cd : Int32} {n : Nat} {f : Nat → Int32} {V : Cell} (h : Cod cd n f V) : Typed .byte V := fun i v hv => by
  have hi : i < V.slots.size := (Array.getElem?_eq_some_iff.mp hv).1
  rcases h with ⟨-, k1, k2⟩ | ⟨-, k1, k2, -⟩
  · rw [(k2 i (by omega)).1] at hv; cases hv; exact fits_lo8 _
  · rcases Nat.mod_two_eq_zero_or_one i with e | e
    · obtain ⟨j, rfl⟩ : ∃ j, i = 2 * j := ⟨i / 2, by omega⟩
      rw [(k2 j (by omega)).1] at hv; cases hv; exact fits_lo8 _
    · obtain ⟨j, rfl⟩ : ∃ j, i = 2 * j + 1 := ⟨i / 2, by omega⟩
      rw [(k2 j (by omega)).2] at hv; cases hv; exact fits_lo8 _
/-- the same text -/
def SameT (n : Nat) (f : Nat → Int32) (k : Nat) (g : Nat → Int32) : Prop := n = k ∧ ∀ j, j < n → f j = g j
theorem lo8_inj {x y : Int32} (h0 : ¬ x < 0) (h1 : ¬ 255 < x) (k0 : ¬ y < 0) (k1 : ¬ 255 < y) (h : lo8 x = lo8 y) : x = y := by
  rw [← lo8_mask h0 h1, ← lo8_mask k0 k1, h]
/-- arrays coded by one coder are equal just where the texts are -/
theorem Cod.eqv {cd : Int32} {n k : Nat} {f g : Nat → Int32} {V V' : Cell} (h : Cod cd n f V) (h' : Cod cd k g V') (hf : ∀ j, j < n → ¬ f j < 0 ∧ ¬ 65535 < f j) (hg : ∀ j, j < k → ¬ g j < 0 ∧ ¬ 65535 < g j) : EqC V V' ↔ SameT n f k g := by
  have yvv : ∀ {W : Cell} {i : Nat} {x : Int32}, W.slots[i]? = some (.int x) → yv W i = x := fun q => by unfold yv; rw [q]
  rcases h with ⟨rfl, k1, k2⟩ | ⟨rfl, k1, k2, -⟩
  · rcases h' with ⟨-, m1, m2⟩ | ⟨e, -⟩
    · constructor
      · rintro ⟨e1, e2⟩
        refine ⟨by omega, fun j hj => ?_⟩
        have q := e2 j (by omega)
        rw [yvv (k2 j hj).1, yvv (m2 j (by omega)).1] at q
        exact lo8_inj (hf j hj).1 (k2 j hj).2 (hg j (by omega)).1 (m2 j (by omega)).2 q
      · rintro ⟨rfl, e2⟩
        refine ⟨by omega, fun j hj => ?_⟩
        rw [yvv (k2 j (by omega)).1, yvv (m2 j (by omega)).1, e2 j (by omega)]
    · exact absurd e (by decide)
  · rcases h' with ⟨e, -⟩ | ⟨-, m1, m2, -⟩
    · exact absurd e (by decide)
    · constructor
      · rintro ⟨e1, e2⟩
        refine ⟨by omega, fun j hj => ?_⟩
        have q1 := e2 (2 * j) (by omega)
        have q2 := e2 (2 * j + 1) (by omega)
        rw [yvv (k2 j hj).1, yvv (m2 j (by omega)).1] at q1
        rw [yvv (k2 j hj).2, yvv (m2 j (by omega)).2] at q2
        rw [← pair_says (hf j hj).1 (hf j hj).2, ← pair_says (hg j (by omega)).1 (hg j (by omega)).2, q1, q2]
      · rintro ⟨rfl, e2⟩
        refine ⟨by omega, fun i hi => ?_⟩
        rcases Nat.mod_two_eq_zero_or_one i with e | e
        · obtain ⟨j, rfl⟩ : ∃ j, i = 2 * j := ⟨i / 2, by omega⟩
          rw [yvv (k2 j (by omega)).1, yvv (m2 j (by omega)).1, e2 j (by omega)]
        · obtain ⟨j, rfl⟩ : ∃ j, i = 2 * j + 1 := ⟨i / 2, by omega⟩
          rw [yvv (k2 j (by omega)).2, yvv (m2 j (by omega)).2, e2 j (by omega)]
/-- two codings differ: so do the texts -/
theorem Cod.dif {cd cd' : Int32} {n k : Nat} {f g : Nat → Int32} {V V' : Cell} (h : Cod cd n f V) (h' : Cod cd' k g V') (hne : ¬ cd = cd') : ¬ SameT n f k g := by
  rintro ⟨rfl, e⟩
  rcases h with ⟨rfl, -, k2⟩ | ⟨rfl, -, -, j, hj, hw⟩
  · rcases h' with ⟨rfl, -⟩ | ⟨-, -, -, j, hj, hw⟩
    · exact hne rfl
    · exact (k2 j hj).2 (by rw [e j hj]; exact hw)
  · rcases h' with ⟨-, -, m2⟩ | ⟨rfl, -⟩
    · exact (m2 j hj).2 (by rw [← e j hj]; exact hw)
    · exact hne rfl
/-- an object of exactly C is an instance of C -/
theorem cinst {p : Program} {l : Launch} {e : Env} {R : Room} {s : State} {m : MethodId} {args : Array Value} {below : List Frame} {meth : Method} {c : Code} {T : State} {locs : List Loc} {cells slots : Nat} (X : Stand p l e R s m args below meth c T locs cells slots) (hexec : p.tables.exec = Jvm.exec) {own C : String} {index : Nat} (hown : s.vm.findClass own = some m.cls) (hlink : (Cond.classLink own index C).before args s = true) {a : Addr} (hE : Exact C a T)
    {g : JFrame} (hg : g.method = m) {rest : List Value} (hstack : g.stack = .ref a :: rest) (hdg : decode c.code g.pc = .ok (.instanceof index, 3)) :
    ∃ T', Stand p l e R s m args below meth c T' locs cells slots ∧ T'.heap = T.heap ∧ ∀ target, Steps p.tables e below (T'.setTop { g with pc := g.pc + 3, stack := .int 1 :: rest }) target → Steps p.tables e below (T.setTop g) target := by
  obtain ⟨cB, h1, D, h2, h3, h4⟩ := hE
  have h1' : s.vm.findClass C = some cB := by rw [← X.warmed.alike.findClass]; exact h1
  obtain ⟨vm', X', st⟩ := X.instanceofYes hexec hown hlink h2 h4 h1' (by rw [h3]; exact Jvm.Free.SB.assignable_self _ _) hg hstack hdg
  exact ⟨_, X', rfl, st⟩
theorem cself {p : Program} {l : Launch} {e : Env} {R : Room} {s : State} {m : MethodId} {args : Array Value} {below : List Frame} {meth : Method} {c : Code} {T : State} {locs : List Loc} {cells slots : Nat} (X : Stand p l e R s m args below meth c T locs cells slots) (hexec : p.tables.exec = Jvm.exec) {own C : String} {index : Nat} (hown : s.vm.findClass own = some m.cls) (hlink : (Cond.classLink own index C).before args s = true) {a : Addr} (hE : Exact C a T)
    {g : JFrame} (hg : g.method = m) {rest : List Value} (hstack : g.stack = .ref a :: rest) (hdg : decode c.code g.pc = .ok (.checkcast index, 3)) :
    ∃ T', Stand p l e R s m args below meth c T' locs cells slots ∧ T'.heap = T.heap ∧ ∀ target, Steps p.tables e below (T'.setTop { g with pc := g.pc + 3, stack := .ref a :: rest }) target → Steps p.tables e below (T.setTop g) target := by
  obtain ⟨cB, h1, D, h2, h3, h4⟩ := hE
  have h1' : s.vm.findClass C = some cB := by rw [← X.warmed.alike.findClass]; exact h1
  obtain ⟨vm', X', st⟩ := X.checkcastYes hexec hown hlink h2 h4 h1' (by rw [h3]; exact Jvm.Free.SB.assignable_self _ _) hg hstack hdg
  exact ⟨_, X', rfl, fun t h => st t (by rw [← hstack] at h; exact h)⟩
namespace SEq
def yN : MethodName := ⟨"java/lang/String", "equals", "(Ljava/lang/Object;)Z"⟩
abbrev yB : ByteArray := jdk_42_method_66_code
theorem d0 : decode yB 0 = .ok (.aload_n 0, 1) := by decide +kernel
theorem d1 : decode yB 1 = .ok (.aload_n 1, 1) := by decide +kernel
theorem d2 : decode yB 2 = .ok (.if_acmp (.ne) 5, 3) := by decide +kernel
theorem d5 : decode yB 5 = .ok (.iconst 1, 1) := by decide +kernel
theorem d6 : decode yB 6 = .ok (.ireturn, 1) := by decide +kernel
theorem d7 : decode yB 7 = .ok (.aload_n 1, 1) := by decide +kernel
theorem d8 : decode yB 8 = .ok (.instanceof 10, 3) := by decide +kernel
theorem d11 : decode yB 11 = .ok (.ifCond (.eq) 43, 3) := by decide +kernel
theorem d14 : decode yB 14 = .ok (.aload_n 1, 1) := by decide +kernel
theorem d15 : decode yB 15 = .ok (.checkcast 10, 3) := by decide +kernel
theorem d18 : decode yB 18 = .ok (.astore_n 2, 1) := by decide +kernel
theorem d19 : decode yB 19 = .ok (.getstatic 38, 3) := by decide +kernel
theorem d22 : decode yB 22 = .ok (.ifCond (.eq) 14, 3) := by decide +kernel
theorem d25 : decode yB 25 = .ok (.aload_n 0, 1) := by decide +kernel
theorem d26 : decode yB 26 = .ok (.getfield 15, 3) := by decide +kernel
theorem d29 : decode yB 29 = .ok (.aload_n 2, 1) := by decide +kernel
theorem d30 : decode yB 30 = .ok (.getfield 15, 3) := by decide +kernel
theorem d33 : decode yB 33 = .ok (.if_icmp (.ne) 21, 3) := by decide +kernel
theorem d36 : decode yB 36 = .ok (.aload_n 0, 1) := by decide +kernel
theorem d37 : decode yB 37 = .ok (.getfield 9, 3) := by decide +kernel
theorem d40 : decode yB 40 = .ok (.aload_n 2, 1) := by decide +kernel
theorem d41 : decode yB 41 = .ok (.getfield 9, 3) := by decide +kernel
theorem d44 : decode yB 44 = .ok (.invokestatic 541, 3) := by decide +kernel
theorem d47 : decode yB 47 = .ok (.ifCond (.eq) 7, 3) := by decide +kernel
theorem d50 : decode yB 50 = .ok (.iconst 1, 1) := by decide +kernel
theorem d51 : decode yB 51 = .ok (.goto 4, 3) := by decide +kernel
theorem d54 : decode yB 54 = .ok (.iconst 0, 1) := by decide +kernel
theorem d55 : decode yB 55 = .ok (.ireturn, 1) := by decide +kernel
def site : List Cond := [.classLink "java/lang/String" 10 "java/lang/String", .fieldLink "java/lang/String" 38 "java/lang/String" "COMPACT_STRINGS" "Z", .fieldLink "java/lang/String" 15 "java/lang/String" "coder" "B", .fieldLink "java/lang/String" 9 "java/lang/String" "value" "[B", LEq.tab] ++ staticW "java/lang/String" 541 LEq.yN
def tab : Cond := tabOf yN yB 3 (some .boolean) site
def P (x t : Addr) (V : Cell) (cd : Int32) (n : Nat) (f : Nat → Int32) (y t' : Addr) (V' : Cell) (cd' : Int32) (k : Nat) (g : Nat → Int32) (z : Int32) (args : Array Value) (s : State) : Prop := args = #[.ref x, .ref y] ∧ Txt x t V cd n f s ∧ Txt y t' V' cd' k g s ∧ StaticIs s "java/lang/String" "COMPACT_STRINGS" "Z" (.int z) ∧ ¬ z = 0
/-- equals(Object) of two Strings: whether the texts are the same -/
theorem law (l : Launch) (x t : Addr) (V : Cell) (cd : Int32) (n : Nat) (f : Nat → Int32) (y t' : Addr) (V' : Cell) (cd' : Int32) (k : Nat) (g : Nat → Int32) (z : Int32) : Law l yN 2 1 1 14 yB 3 (some .boolean) site (P x t V cd n f y t' V' cd' k g z) (Says01 (SameT n f k g)) [] 0 0 := by
  refine Law.of_walk (plainFor_of_name (by decide +kernel)) (by decide +kernel) (by decide +kernel) (by decide) (fun _ _ h => by rw [h.1]; rfl) (fun _ U U' hal hh h => ⟨h.1, h.2.1.mv hal hh, h.2.2.1.mv hal hh, h.2.2.2.1.there hal hh, h.2.2.2.2⟩) (fun r U U' V V' h1 hal h2 h => Says01.mv r U U' V V' h1 hal h2 h) ?_
  intro p e s m args below meth c s₁ X0 hexec hbytes hml hret hlk hnm hown hh0 W hP
  obtain ⟨rfl, hx, hy, s1, hz⟩ := hP
  have c1 : Steps p.tables e below (s₁.setTop (entryFrame m #[.ref x, .ref y] 3)) (s₁.setTop (mkF m 2 #[.val (.ref x), .val (.ref y), .unset] [.ref y, .ref x])) := Steps.trans (entry rfl) (by
    show Steps p.tables e below (s₁.setTop (mkF m 0 #[.val (.ref x), .val (.ref y), .unset] [])) _
    refine XS.aloadN X0.here hexec rfl (hb hbytes d0) rfl rfl ?_
    refine XS.aloadN X0.here hexec rfl (hb hbytes d1) rfl rfl ?_
    exact Steps.refl _)
  by_cases hxy : x = y
  · have c2 : Steps p.tables e below (s₁.setTop (entryFrame m #[.ref x, .ref y] 3)) (s₁.setTop (mkF m 6 #[.val (.ref x), .val (.ref y), .unset] [.int 1])) := c1.trans (by
      refine acmpNo X0.here hexec rfl (hb hbytes d2) rfl rfl rfl (by simp [acmp, hxy]) ?_
      refine iconstV X0.here hexec rfl 1 (hb hbytes d5) (by decide) ?_
      exact Steps.refl _)
    subst hxy
    have ec : cd = cd' := by
      obtain ⟨D, fd, a1, a2, a3⟩ := hx.2.2.1
      obtain ⟨D', fd', b1, b2, b3⟩ := hy.2.2.1
      cases a1.symm.trans b1
      obtain ⟨q1, q2, q3, q4⟩ := a2.1
      obtain ⟨r1, r2, r3, r4⟩ := b2.1
      cases q4.symm.trans r4
      cases a3.symm.trans b3; rfl
    have et : t = t' := by
      obtain ⟨D, fd, a1, a2, a3⟩ := hx.2.1
      obtain ⟨D', fd', b1, b2, b3⟩ := hy.2.1
      cases a1.symm.trans b1
      obtain ⟨q1, q2, q3, q4⟩ := a2.1
      obtain ⟨r1, r2, r3, r4⟩ := b2.1
      cases q4.symm.trans r4
      cases a3.symm.trans b3; rfl
    subst ec et
    have ev : V = V' := by cases hx.2.2.2.1.1.symm.trans hy.2.2.2.1.1; rfl
    subst ev
    have hs : SameT n f k g := (Cod.eqv hx.2.2.2.2.1 hy.2.2.2.2.1 hx.2.2.2.2.2 hy.2.2.2.2.2).mp ⟨rfl, fun _ _ => rfl⟩
    exact ⟨s₁, some (.int 1), _, _, _, X0, rfl, rfl, rfl, (fun h => by cases h), ⟨1, rfl, hh0, Or.inl ⟨rfl, hs⟩⟩, fun fs hl => c2.trans (X0.ireturnOut hexec hret rfl (Or.inr (Or.inl rfl)) (hb hbytes d6) hl)⟩
  · have c2 : Steps p.tables e below (s₁.setTop (entryFrame m #[.ref x, .ref y] 3)) (s₁.setTop (mkF m 8 #[.val (.ref x), .val (.ref y), .unset] [.ref y])) := c1.trans (by
      refine acmpYes X0.here hexec rfl (pc0 := 2) rfl (hb hbytes d2) rfl rfl rfl (by simp [acmp, hxy]) (by decide) rfl ?_
      refine XS.aloadN X0.here hexec rfl (hb hbytes d7) rfl rfl ?_
      exact Steps.refl _)
    obtain ⟨T3, X3, q3, st3⟩ := cinst X0 hexec hown (wk W (.classLink "java/lang/String" 10 "java/lang/String")) (hy.mv X0.warmed.alike hh0).1 (g := (mkF m 8 #[.val (.ref x), .val (.ref y), .unset] [.ref y])) rfl (rest := []) rfl (hb hbytes d8)
    have hh3 := q3.trans hh0
    have c4 : Steps p.tables e below (s₁.setTop (entryFrame m #[.ref x, .ref y] 3)) (T3.setTop (mkF m 15 #[.val (.ref x), .val (.ref y), .unset] [.ref y])) := (c2.trans (st3 _ (Steps.refl _))).trans (by
      refine XS.ifNo X3.here hexec rfl (hb hbytes d11) rfl (i0_eq_f (by decide)) ?_
      refine XS.aloadN X3.here hexec rfl (hb hbytes d14) rfl rfl ?_
      exact Steps.refl _)
    obtain ⟨T5, X5, q5, st5⟩ := cself X3 hexec hown (wk W (.classLink "java/lang/String" 10 "java/lang/String")) (hy.mv X3.warmed.alike hh3).1 (g := (mkF m 15 #[.val (.ref x), .val (.ref y), .unset] [.ref y])) rfl (rest := []) rfl (hb hbytes d15)
    have hh5 := q5.trans hh3
    have c6 : Steps p.tables e below (s₁.setTop (entryFrame m #[.ref x, .ref y] 3)) (T5.setTop (mkF m 19 #[.val (.ref x), .val (.ref y), .val (.ref y)] [])) := (c4.trans (st5 _ (Steps.refl _))).trans (by
      refine XS.astoreN X5.here hexec rfl (hb hbytes d18) rfl rfl rfl ?_
      exact Steps.refl _)
    obtain ⟨T7, X7, q7, st7⟩ := X5.sget hexec hown (wk W (.fieldLink "java/lang/String" 38 "java/lang/String" "COMPACT_STRINGS" "Z")) s1 (fun _ _ h => by rw [hh5]; exact h) (g := (mkF m 19 #[.val (.ref x), .val (.ref y), .val (.ref y)] [])) rfl (hb hbytes d19)
    have hh7 := q7.trans hh5
    have c8 : Steps p.tables e below (s₁.setTop (entryFrame m #[.ref x, .ref y] 3)) (T7.setTop (mkF m 26 #[.val (.ref x), .val (.ref y), .val (.ref y)] [.ref x])) := (c6.trans (st7 _ (Steps.refl _))).trans (by
      refine XS.ifNo X7.here hexec rfl (hb hbytes d22) rfl (i0_eq_f hz) ?_
      refine XS.aloadN X7.here hexec rfl (hb hbytes d25) rfl rfl ?_
      exact Steps.refl _)
    obtain ⟨T9, X9, q9, st9⟩ := X7.hget hexec hown (wk W (.fieldLink "java/lang/String" 15 "java/lang/String" "coder" "B")) (hx.mv X7.warmed.alike hh7).2.2.1 (g := (mkF m 26 #[.val (.ref x), .val (.ref y), .val (.ref y)] [.ref x])) rfl (rest := []) rfl (hb hbytes d26)
    have hh9 := q9.trans hh7
    have c10 : Steps p.tables e below (s₁.setTop (entryFrame m #[.ref x, .ref y] 3)) (T9.setTop (mkF m 30 #[.val (.ref x), .val (.ref y), .val (.ref y)] [.ref y, .int cd])) := (c8.trans (st9 _ (Steps.refl _))).trans (by
      refine XS.aloadN X9.here hexec rfl (hb hbytes d29) rfl rfl ?_
      exact Steps.refl _)
    obtain ⟨T11, X11, q11, st11⟩ := X9.hget hexec hown (wk W (.fieldLink "java/lang/String" 15 "java/lang/String" "coder" "B")) (hy.mv X9.warmed.alike hh9).2.2.1 (g := (mkF m 30 #[.val (.ref x), .val (.ref y), .val (.ref y)] [.ref y, .int cd])) rfl (rest := [.int cd]) rfl (hb hbytes d30)
    have hh11 := q11.trans hh9
    have c12 : Steps p.tables e below (s₁.setTop (entryFrame m #[.ref x, .ref y] 3)) (T11.setTop (mkF m 33 #[.val (.ref x), .val (.ref y), .val (.ref y)] [.int cd', .int cd])) := c10.trans (st11 _ (Steps.refl _))
    by_cases hcd : cd = cd'
    · subst hcd
      have c13 : Steps p.tables e below (s₁.setTop (entryFrame m #[.ref x, .ref y] 3)) (T11.setTop (mkF m 37 #[.val (.ref x), .val (.ref y), .val (.ref y)] [.ref x])) := c12.trans (by
        refine XS.icmpNo X11.here hexec rfl (hb hbytes d33) rfl (ii_ne_f rfl) ?_
        refine XS.aloadN X11.here hexec rfl (hb hbytes d36) rfl rfl ?_
        exact Steps.refl _)
      obtain ⟨T14, X14, q14, st14⟩ := X11.hget hexec hown (wk W (.fieldLink "java/lang/String" 9 "java/lang/String" "value" "[B")) (hx.mv X11.warmed.alike hh11).2.1 (g := (mkF m 37 #[.val (.ref x), .val (.ref y), .val (.ref y)] [.ref x])) rfl (rest := []) rfl (hb hbytes d37)
      have hh14 := q14.trans hh11
      have c15 : Steps p.tables e below (s₁.setTop (entryFrame m #[.ref x, .ref y] 3)) (T14.setTop (mkF m 41 #[.val (.ref x), .val (.ref y), .val (.ref y)] [.ref y, .ref t])) := (c13.trans (st14 _ (Steps.refl _))).trans (by
        refine XS.aloadN X14.here hexec rfl (hb hbytes d40) rfl rfl ?_
        exact Steps.refl _)
      obtain ⟨T16, X16, q16, st16⟩ := X14.hget hexec hown (wk W (.fieldLink "java/lang/String" 9 "java/lang/String" "value" "[B")) (hy.mv X14.warmed.alike hh14).2.1 (g := (mkF m 41 #[.val (.ref x), .val (.ref y), .val (.ref y)] [.ref y, .ref t])) rfl (rest := [.ref t]) rfl (hb hbytes d41)
      have hh16 := q16.trans hh14
      have c17 : Steps p.tables e below (s₁.setTop (entryFrame m #[.ref x, .ref y] 3)) (T16.setTop (mkF m 44 #[.val (.ref x), .val (.ref y), .val (.ref y)] [.ref t', .ref t])) := c15.trans (st16 _ (Steps.refl _))
      obtain ⟨v18, T18, X18, E18, g18⟩ := X16.callS hexec (LEq.law l t V t' V') hown (wks W (staticW "java/lang/String" 541 LEq.yN)) (wk W LEq.tab) (W := 0) (Nat.le_of_ble_eq_true rfl) (Nat.le_of_ble_eq_true rfl) (Nat.le_refl _) (Nat.le_refl _) (g := (mkF m 44 #[.val (.ref x), .val (.ref y), .val (.ref y)] [.ref t', .ref t])) rfl (by rw [hml]; rfl) c17 (argsL := [.ref t, .ref t']) (rest := []) rfl rfl (by show 2 * 0 + 0 ≤ _; decide) (hb hbytes d44) (⟨rfl, hx.2.2.2.1.mv X16.warmed.alike hh16, hx.2.2.2.2.1.ty, hy.2.2.2.1.mv X16.warmed.alike hh16, hy.2.2.2.2.1.ty⟩)
      obtain ⟨v, rfl, q18, hv⟩ := E18
      have iff := Cod.eqv hx.2.2.2.2.1 hy.2.2.2.2.1 hx.2.2.2.2.2 hy.2.2.2.2.2
      rcases hv with ⟨rfl, he⟩ | ⟨rfl, he⟩
      · have c19 : Steps p.tables e below (s₁.setTop (entryFrame m #[.ref x, .ref y] 3)) (T18.setTop (mkF m 55 #[.val (.ref x), .val (.ref y), .val (.ref y)] [.int 1])) := Steps.trans g18 (by
          refine XS.ifNo X18.here hexec rfl (hb hbytes d47) rfl (i0_eq_f (by decide)) ?_
          refine iconstV X18.here hexec rfl 1 (hb hbytes d50) (by decide) ?_
          refine XS.goto X18.here hexec rfl (pc0 := 51) rfl (hb hbytes d51) (by decide) rfl ?_
          exact Steps.refl _)
        exact ⟨T18, some (.int 1), _, _, _, X18, rfl, rfl, rfl, (fun h => by cases h), ⟨1, rfl, q18.trans hh16, Or.inl ⟨rfl, iff.mp he⟩⟩, fun fs hl => c19.trans (X18.ireturnOut hexec hret rfl (Or.inr (Or.inl rfl)) (hb hbytes d55) hl)⟩
      · have c19 : Steps p.tables e below (s₁.setTop (entryFrame m #[.ref x, .ref y] 3)) (T18.setTop (mkF m 55 #[.val (.ref x), .val (.ref y), .val (.ref y)] [.int 0])) := Steps.trans g18 (by
          refine XS.ifYes X18.here hexec rfl (pc0 := 47) rfl (hb hbytes d47) rfl (i0_eq_t rfl) (by decide) rfl ?_
          refine iconstV X18.here hexec rfl 0 (hb hbytes d54) (by decide) ?_
          exact Steps.refl _)
        exact ⟨T18, some (.int 0), _, _, _, X18, rfl, rfl, rfl, (fun h => by cases h), ⟨0, rfl, q18.trans hh16, Or.inr ⟨rfl, fun q => he (iff.mpr q)⟩⟩, fun fs hl => c19.trans (X18.ireturnOut hexec hret rfl (Or.inr (Or.inl rfl)) (hb hbytes d55) hl)⟩
    · have c13 : Steps p.tables e below (s₁.setTop (entryFrame m #[.ref x, .ref y] 3)) (T11.setTop (mkF m 55 #[.val (.ref x), .val (.ref y), .val (.ref y)] [.int 0])) := c12.trans (by
        refine XS.icmpYes X11.here hexec rfl (pc0 := 33) rfl (hb hbytes d33) rfl (ii_ne_t hcd) (by decide) rfl ?_
        refine iconstV X11.here hexec rfl 0 (hb hbytes d54) (by decide) ?_
        exact Steps.refl _)
      exact ⟨T11, some (.int 0), _, _, _, X11, rfl, rfl, rfl, (fun h => by cases h), ⟨0, rfl, hh11, Or.inr ⟨rfl, Cod.dif hx.2.2.2.2.1 hy.2.2.2.2.1 hcd⟩⟩, fun fs hl => c13.trans (X11.ireturnOut hexec hret rfl (Or.inr (Or.inl rfl)) (hb hbytes d55) hl)⟩
theorem pays {l : Launch} {R : Room} {p : Program} {e : Env} {below : List Frame} {s : State} {sargs : Array Value} {len W : Nat} (x t : Addr) (V : Cell) (cd : Int32) (n : Nat) (f : Nat → Int32) (y t' : Addr) (V' : Cell) (cd' : Int32) (k : Nat) (g : Nat → Int32) (z : Int32) (htab : tab.before sargs s = true) (hfr : 2 ≤ R.frames) (hlo : W + 28 ≤ R.locals) :
    Back l R p e below s sargs yN len W (fun A₁ a₁ => A₁.cells + 0 ≤ R.cells ∧ A₁.slots + 0 ≤ R.slots ∧ P x t V cd n f y t' V' cd' k g z a₁ A₁.U) (fun A₁ _ v₁ B₁ => Says01 (SameT n f k g) v₁ A₁.U B₁.U ∧ B₁.locs = A₁.locs ++ [] ∧ B₁.cells = A₁.cells + 0 ∧ B₁.slots = A₁.slots + 0) :=
  (law l x t V cd n f y t' V' cd' k g z).pays htab hfr (by omega)
end SEq
end StrChars
namespace StrChars.Road
open Jvm Sem ClassFile Op Lib Jvm.Stand Jvm.Free Jvm.Free.XT
open Jvm.Lib.Cold (StaticIs)
/-- the words of String.equals(Object) -/
abbrev wordsEq : List Jvm.Cond := [.code SEq.yN SEq.yB 3 (some .boolean), .initialized ST, .classLink ST 10 ST, .fieldLink ST 38 ST "COMPACT_STRINGS" "Z", .fieldLink ST 15 ST "coder" "B", .fieldLink ST 9 ST "value" "[B", .methodLink ST 541 LEq.yN, .static LEq.yN, .code LEq.yN LEq.yB 3 (some .boolean), .initialized "java/lang/StringLatin1"]
theorem tabEq_of {a : Array Value} {s : State} (h : ∀ w ∈ wordsEq, w.before a s = true) : SEq.tab.before a s = true := by
  have hl : LEq.tab.before a s = true := unparts (wk h (.code LEq.yN LEq.yB 3 (some .boolean))) (wks h (.initialized LEq.yN.cls :: LEq.site))
  have q := consq hl h
  exact unparts (wk q (.code SEq.yN SEq.yB 3 (some .boolean))) (wks q (.initialized SEq.yN.cls :: SEq.site))
theorem movedEq {Z s : State} {a0 args : Array Value} (hZ : Z.Warmed39 s.vm) (hw : ∀ d ∈ wordsEq, d.before a0 Z = true) : ∀ d ∈ wordsEq, d.before args s = true := fun d hd => by
  have t : ∀ d ∈ wordsEq, (d.onTables && d.keepsFace) = true := by decide +kernel
  exact RoadKit.mv hZ (hw d hd) (t d hd)
/-- the road's facts of a String, as the laws ask it -/
theorem txt_of {Z U : State} {a0 : Array Value} {kI : Nat} (wi : (Jvm.Cond.instantiable ST kI).before a0 Z = true) (al : Z.vm.Alike U.vm) {x t : Addr} {kb : ClassId} {cs : List Int32} {cd N2 : Int32} {vs : List Value} (E : RoadKit.Exa Z U.heap x ST) (V : RoadKit.Fld Z U.heap x ST "value" "[B" (.ref t)) (C : RoadKit.Fld Z U.heap x ST "coder" "B" (.int cd)) (K : RoadKit.Arv Z U.heap t kb .byte N2 vs (.int 0)) (hc : CodA cs cd N2 vs) (hb : ∀ c ∈ cs, ¬ c < 0 ∧ ¬ (65535 : Int32) < c) (l2 : cs.length ≤ 4000) :
    ∃ A, Txt x t A cd cs.length (fun j => cs.getD j 0) U := by
  obtain ⟨A, K1, K2, K3, K4, K5, K6⟩ := K
  have hcod := hc.cod (by omega) K3 K5
  obtain ⟨D, fV, fC, hB, F1, F2, g1, g2, -, -⟩ := strObj wi al E V C
  exact ⟨A, ⟨_, hB.2.2.1, D, hB.1, rfl, by cases q : D.vm <;> first | rfl | exact absurd q (hB.2.1.2 _)⟩, Has.of hB F1 g1, Has.of hB F2 g2, ⟨K1.1, State.isArrayOf_alike al K1.2.1, K1.2.2, by rcases hcod with ⟨-, q, -⟩ | ⟨-, q, -⟩ <;> omega⟩, hcod, fun j hj => by
    have e : cs.getD j 0 = cs[j] := by simp [List.getD_eq_getElem?_getD, hj]
    show ¬ cs.getD j 0 < 0 ∧ ¬ 65535 < cs.getD j 0
    rw [e]; exact hb _ (List.getElem_mem _)⟩
theorem same_list (cs ds : List Int32) : SameT cs.length (fun j => cs.getD j 0) ds.length (fun j => ds.getD j 0) ↔ cs = ds := by
  constructor
  · rintro ⟨e, q⟩
    refine List.ext_getElem e fun j h1 h2 => ?_
    have := q j h1
    simpa [List.getD_eq_getElem?_getD, h1, h2] using this
  · rintro rfl
    exact ⟨rfl, fun _ _ => rfl⟩
/-- **equals(Object) OF TWO SUCH STRINGS**: 1 just where the chars are the same -/
theorem eqW {p : Program} {l : Launch} {e : Env} {R : Room} {s : State} {args : Array Value} {below : List Frame} {len W : Nat} {Z : State} {a0 : Array Value} {h : Heap} (hZ : Z.Warmed39 s.vm) (hw : ∀ d ∈ wordsEq, d.before a0 Z = true) {kI : Nat} (wi : (Jvm.Cond.instantiable ST kI).before a0 Z = true)
    {x t : Addr} {kb : ClassId} {cs : List Int32} {cd N2 : Int32} {vs : List Value} (E : RoadKit.Exa Z h x ST) (V : RoadKit.Fld Z h x ST "value" "[B" (.ref t)) (C : RoadKit.Fld Z h x ST "coder" "B" (.int cd)) (K : RoadKit.Arv Z h t kb .byte N2 vs (.int 0)) (hc : CodA cs cd N2 vs) (hb : ∀ c ∈ cs, ¬ c < 0 ∧ ¬ (65535 : Int32) < c) (l2 : cs.length ≤ 4000)
    {y t' : Addr} {kb' : ClassId} {ds : List Int32} {cd' N2' : Int32} {vs' : List Value} (E' : RoadKit.Exa Z h y ST) (V' : RoadKit.Fld Z h y ST "value" "[B" (.ref t')) (C' : RoadKit.Fld Z h y ST "coder" "B" (.int cd')) (K' : RoadKit.Arv Z h t' kb' .byte N2' vs' (.int 0)) (hc' : CodA ds cd' N2' vs') (hb' : ∀ c ∈ ds, ¬ c < 0 ∧ ¬ (65535 : Int32) < c) (l2' : ds.length ≤ 4000)
    {z : Int32} (S : RoadKit.Sta Z h ST "COMPACT_STRINGS" "Z" (.int z)) (hz : ¬ z = 0) (hfr : 2 ≤ R.frames) (hlo : W + 28 ≤ R.locals) :
    Back l R p e below s args (⟨"java/lang/String", "equals", "(Ljava/lang/Object;)Z"⟩ : MethodName) len W (fun P a => a = #[.ref x, .ref y] ∧ P.U.heap = h ∧ P.cells + 0 ≤ R.cells ∧ P.slots + 0 ≤ R.slots)
      (fun P _ v B => ∃ L, (((v = some (.int 1) ∧ cs = ds) ∨ (v = some (.int 0) ∧ ¬ cs = ds)) ∧ L = [] ∧ B.U.heap = h) ∧ B.locs = P.locs ++ L ∧ B.cells = P.cells + 0 ∧ B.slots = P.slots + 0) := by
  intro m meth c P g ig mk a X hg hsize hdg hW hn hp'
  obtain ⟨rfl, rfl, r1, r2⟩ := hp'
  have al : Z.vm.Alike P.U.vm := hZ.alike.trans X.warmed.alike
  obtain ⟨A, hx⟩ := txt_of wi al E V C K hc hb l2
  obtain ⟨A', hy⟩ := txt_of wi al E' V' C' K' hc' hb' l2'
  obtain ⟨v, B, X', ⟨⟨w, hv, hh, hq⟩, hl, hk, hs⟩, st⟩ := SEq.pays x t A cd cs.length (fun j => cs.getD j 0) y t' A' cd' ds.length (fun j => ds.getD j 0) z (tabEq_of (movedEq hZ hw)) hfr hlo m meth c P g ig mk _ X hg hsize hdg hW hn ⟨r1, r2, rfl, hx, hy, sta_is al S, hz⟩
  refine ⟨v, B, X', ⟨[], ⟨?_, rfl, hh⟩, hl, hk, hs⟩, st⟩
  rcases hq with ⟨rfl, q⟩ | ⟨rfl, q⟩
  · exact Or.inl ⟨hv, (same_list cs ds).mp q⟩
  · exact Or.inr ⟨hv, fun e => q ((same_list cs ds).mpr e)⟩
end StrChars.Road
namespace StrChars
open Jvm Sem ClassFile Op Lib Jvm.Stand Jvm.Free.XT Jvm.Free.ALB Jvm.Free.JM Jvm.Free
open Jvm.Lib.Cold (StaticIs)
namespace ChN
def yN : MethodName := ⟨"java/lang/String", "charAt", "(I)C"⟩
abbrev yB : ByteArray := jdk_42_method_56_code
theorem d0 : decode yB 0 = .ok (.aload_n 0, 1) := by decide +kernel
theorem d1 : decode yB 1 = .ok (.invokevirtual 492, 3) := by decide +kernel
theorem d4 : decode yB 4 = .ok (.ifCond (.eq) 12, 3) := by decide +kernel
theorem d7 : decode yB 7 = .ok (.aload_n 0, 1) := by decide +kernel
theorem d8 : decode yB 8 = .ok (.getfield 9, 3) := by decide +kernel
theorem d11 : decode yB 11 = .ok (.iload_n 1, 1) := by decide +kernel
theorem d12 : decode yB 12 = .ok (.invokestatic 495, 3) := by decide +kernel
theorem d15 : decode yB 15 = .ok (.ireturn, 1) := by decide +kernel
def site : List Cond := [.fieldLink "java/lang/String" 9 "java/lang/String" "value" "[B", IsL.tab, LChA.tab] ++ virtW "java/lang/String" 492 "java/lang/String" IsL.yN IsL.yN ++ staticW "java/lang/String" 495 LChA.yN
def tab : Cond := tabOf yN yB 2 (some .char) site
def P (x t : Addr) (V : Cell) (n : Nat) (f : Nat → Int32) (z : Int32) (fm : Value) (i : Nat) (args : Array Value) (s : State) : Prop := args = #[.ref x, .int (Int32.ofNat i)] ∧ Txt x t V 0 n f s ∧ i < n ∧ StaticIs s "java/lang/String" "COMPACT_STRINGS" "Z" (.int z) ∧ ¬ z = 0 ∧ StaticIs s "jdk/internal/util/Preconditions" "SIOOBE_FORMATTER" "Ljava/util/function/BiFunction;" fm ∧ fm.isRef = true
def E (f : Nat → Int32) (i : Nat) (r : Option Value) (s u : State) : Prop := XT.PureE (some (.int (f i))) r s u
/-- charAt(i) of a Latin-1 String of n chars, i < n: f i -/
theorem law (l : Launch) (x t : Addr) (V : Cell) (n : Nat) (f : Nat → Int32) (z : Int32) (fm : Value) (i : Nat) : Law l yN 2 1 3 40 yB 2 (some .char) site (P x t V n f z fm i) (E f i) [] 0 0 := by
  refine Law.of_walk (plainFor_of_name (by decide +kernel)) (by decide +kernel) (by decide +kernel) (by decide) (fun _ _ h => by rw [h.1]; rfl) (fun _ U U' hal hh h => ⟨h.1, h.2.1.mv hal hh, h.2.2.1, h.2.2.2.1.there hal hh, h.2.2.2.2.1, h.2.2.2.2.2.1.there hal hh, h.2.2.2.2.2.2⟩) (fun r U U' V V' h1 hal h2 h => XT.PureE.mv r U U' V V' h1 hal h2 h) ?_
  intro p e s m args below meth c s₁ X0 hexec hbytes hml hret hlk hnm hown hh0 W hP
  obtain ⟨rfl, hx, hi, s1, hz, s3, rf⟩ := hP
  have v31 := hx.2.2.2.1.2.2.2
  have hr := hx.2.2.2.2.2 i hi
  have hx0 := hx.mv X0.warmed.alike hh0
  have c1 : Steps p.tables e below (s₁.setTop (entryFrame m #[.ref x, .int (Int32.ofNat i)] 2)) (s₁.setTop (mkF m 1 #[.val (.ref x), .val (.int (Int32.ofNat i))] [.ref x])) := Steps.trans (entry rfl) (by
    show Steps p.tables e below (s₁.setTop (mkF m 0 #[.val (.ref x), .val (.int (Int32.ofNat i))] [])) _
    refine XS.aloadN X0.here hexec rfl (hb hbytes d0) rfl rfl ?_
    exact Steps.refl _)
  obtain ⟨v2, T2, X2, E2, g2⟩ := X0.callV hexec (IsL.law l x 0 z) hown (wks W (virtW "java/lang/String" 492 "java/lang/String" IsL.yN IsL.yN)) rfl (by decide) (wk W IsL.tab) (W := 0) (Nat.le_of_ble_eq_true rfl) (Nat.le_of_ble_eq_true rfl) (Nat.le_refl _) (Nat.le_refl _) (hx0.1.fc X0.warmed.alike) hx0.1.is (g := (mkF m 1 #[.val (.ref x), .val (.int (Int32.ofNat i))] [.ref x])) rfl (by rw [hml]; rfl) c1 (argsL := []) (rest := []) rfl rfl (by show 2 * 0 + 0 ≤ _; decide) (hb hbytes d1) (⟨rfl, hx0.2.2.1, hx.2.2.2.2.1.cd, s1.there X0.warmed.alike hh0, hz⟩)
  obtain ⟨rfl, q2⟩ := E2
  have hh2 := q2.trans hh0
  have hx2 := hx.mv X2.warmed.alike hh2
  obtain ⟨-, k1, k2⟩ | ⟨k0, -⟩ := hx.2.2.2.2.1
  · have c3 : Steps p.tables e below (s₁.setTop (entryFrame m #[.ref x, .int (Int32.ofNat i)] 2)) (T2.setTop (mkF m 8 #[.val (.ref x), .val (.int (Int32.ofNat i))] [.ref x])) := Steps.trans g2 (by
      refine XS.ifNo X2.here hexec rfl (hb hbytes d4) rfl (i0_eq_f (by decide)) ?_
      refine XS.aloadN X2.here hexec rfl (hb hbytes d7) rfl rfl ?_
      exact Steps.refl _)
    obtain ⟨T4, X4, q4, st4⟩ := X2.hget hexec hown (wk W (.fieldLink "java/lang/String" 9 "java/lang/String" "value" "[B")) hx2.2.1 (g := (mkF m 8 #[.val (.ref x), .val (.int (Int32.ofNat i))] [.ref x])) rfl (rest := []) rfl (hb hbytes d8)
    have hh4 := q4.trans hh2
    have c5 : Steps p.tables e below (s₁.setTop (entryFrame m #[.ref x, .int (Int32.ofNat i)] 2)) (T4.setTop (mkF m 12 #[.val (.ref x), .val (.int (Int32.ofNat i))] [.int (Int32.ofNat i), .ref t])) := (c3.trans (st4 _ (Steps.refl _))).trans (by
      refine XS.iloadN X4.here hexec rfl (hb hbytes d11) rfl ?_
      exact Steps.refl _)
    obtain ⟨v6, T6, X6, E6, g6⟩ := X4.callS hexec (LChA.law l t V i (lo8 (f i)) fm) hown (wks W (staticW "java/lang/String" 495 LChA.yN)) (wk W LChA.tab) (W := 0) (Nat.le_of_ble_eq_true rfl) (Nat.le_of_ble_eq_true rfl) (Nat.le_refl _) (Nat.le_refl _) (g := (mkF m 12 #[.val (.ref x), .val (.int (Int32.ofNat i))] [.int (Int32.ofNat i), .ref t])) rfl (by rw [hml]; rfl) c5 (argsL := [.ref t, .int (Int32.ofNat i)]) (rest := []) rfl rfl (by show 2 * 0 + 0 ≤ _; decide) (hb hbytes d12) (⟨rfl, hx.2.2.2.1.mv X4.warmed.alike hh4, (k2 i hi).1, s3.there X4.warmed.alike hh4, rf⟩)
    obtain ⟨rfl, q6⟩ := E6
    rw [chr8_lo8 hr.1 (k2 i hi).2] at g6
    exact ⟨T6, some (.int (f i)), _, _, _, X6, rfl, rfl, rfl, (fun h => by cases h), ⟨rfl, q6.trans hh4⟩, fun fs hl => Steps.trans g6 (X6.ireturnOut hexec hret (narrow_ch hr.1 hr.2) (Or.inr (Or.inr (Or.inr (Or.inl rfl)))) (hb hbytes d15) hl)⟩
  · exact absurd k0 (by decide)
theorem pays {l : Launch} {R : Room} {p : Program} {e : Env} {below : List Frame} {s : State} {sargs : Array Value} {len W : Nat} (x t : Addr) (V : Cell) (n : Nat) (f : Nat → Int32) (z : Int32) (fm : Value) (i : Nat) (htab : tab.before sargs s = true) (hfr : 4 ≤ R.frames) (hlo : W + 53 ≤ R.locals) :
    Back l R p e below s sargs yN len W (fun A₁ a₁ => A₁.cells + 0 ≤ R.cells ∧ A₁.slots + 0 ≤ R.slots ∧ P x t V n f z fm i a₁ A₁.U) (fun A₁ _ v₁ B₁ => E f i v₁ A₁.U B₁.U ∧ B₁.locs = A₁.locs ++ [] ∧ B₁.cells = A₁.cells + 0 ∧ B₁.slots = A₁.slots + 0) :=
  (law l x t V n f z fm i).pays htab hfr (by omega)
end ChN
end StrChars
namespace StrChars.Road
open Jvm Sem ClassFile Op Lib Jvm.Stand Jvm.Free Jvm.Free.XT
open Jvm.Lib.Cold (StaticIs)
/-- the words of String.charAt(int), the Latin-1 road alone -/
abbrev wordsChN : List Jvm.Cond := [.code ChN.yN ChN.yB 2 (some .char), .initialized ST, .fieldLink ST 9 ST "value" "[B", .fieldLink ST 38 ST "COMPACT_STRINGS" "Z", .fieldLink ST 15 ST "coder" "B", .code IsL.yN IsL.yB 1 (some .boolean), .methodLink ST 492 IsL.yN, .declares IsL.yN, .selects ST IsL.yN IsL.yN, .instanceMethod IsL.yN,
  .methodLink ST 495 LChA.yN, .static LChA.yN, .code LChA.yN LChA.yB 2 (some .char), .initialized "java/lang/StringLatin1", .methodLink "java/lang/StringLatin1" 9 JO.Str_checkIndex.yN, .static JO.Str_checkIndex.yN, .code JO.Str_checkIndex.yN JO.Str_checkIndex.yB 2 none,
  .fieldLink ST 1053 "jdk/internal/util/Preconditions" "SIOOBE_FORMATTER" "Ljava/util/function/BiFunction;", .methodLink ST 1059 JC.PreCheck.yN, .static JC.PreCheck.yN, .code JC.PreCheck.yN JC.PreCheck.yB 3 (some .int), .initialized "jdk/internal/util/Preconditions"]
theorem tabChN_of {a : Array Value} {s : State} (h : ∀ w ∈ wordsChN, w.before a s = true) : ChN.tab.before a s = true := by
  have hp : JC.PreCheck.tab.before a s = true := unparts (wk h (.code JC.PreCheck.yN JC.PreCheck.yB 3 (some .int))) (wks h (.initialized JC.PreCheck.yN.cls :: JC.PreCheck.site))
  have qk := consq hp h
  have hk : JO.Str_checkIndex.tab.before a s = true := unparts (wk qk (.code JO.Str_checkIndex.yN JO.Str_checkIndex.yB 2 none)) (wks qk (.initialized JO.Str_checkIndex.yN.cls :: JO.Str_checkIndex.site))
  have ql := consq hk h
  have hl : LChA.tab.before a s = true := unparts (wk ql (.code LChA.yN LChA.yB 2 (some .char))) (wks ql (.initialized LChA.yN.cls :: LChA.site))
  have hi : IsL.tab.before a s = true := unparts (wk h (.code IsL.yN IsL.yB 1 (some .boolean))) (wks h (.initialized IsL.yN.cls :: IsL.site))
  have q := consq hi (consq hl h)
  exact unparts (wk q (.code ChN.yN ChN.yB 2 (some .char))) (wks q (.initialized ChN.yN.cls :: ChN.site))
theorem movedChN {Z s : State} {a0 args : Array Value} (hZ : Z.Warmed39 s.vm) (hw : ∀ d ∈ wordsChN, d.before a0 Z = true) : ∀ d ∈ wordsChN, d.before args s = true := fun d hd => by
  have t : ∀ d ∈ wordsChN, (d.onTables && d.keepsFace) = true := by decide +kernel
  exact RoadKit.mv hZ (hw d hd) (t d hd)
/-- **charAt(i) OF A LATIN-1 STRING**, i < n: the char -/
theorem chN {p : Program} {l : Launch} {e : Env} {R : Room} {s : State} {args : Array Value} {below : List Frame} {len W : Nat} {Z : State} {a0 : Array Value} {h : Heap} (hZ : Z.Warmed39 s.vm) (hw : ∀ d ∈ wordsChN, d.before a0 Z = true) {kI : Nat} (wi : (Jvm.Cond.instantiable ST kI).before a0 Z = true)
    {x t : Addr} {kb : ClassId} {cs : List Int32} {N2 z : Int32} {vs : List Value} {fm : Value} {i : Nat} {j : Int32} (E : RoadKit.Exa Z h x ST) (V : RoadKit.Fld Z h x ST "value" "[B" (.ref t)) (C : RoadKit.Fld Z h x ST "coder" "B" (.int 0)) (K : RoadKit.Arv Z h t kb .byte N2 vs (.int 0)) (hc : CodA cs 0 N2 vs) (hb : ∀ c ∈ cs, ¬ c < 0 ∧ ¬ (65535 : Int32) < c)
    (S : RoadKit.Sta Z h ST "COMPACT_STRINGS" "Z" (.int z)) (hz : ¬ z = 0) (F : RoadKit.Sta Z h "jdk/internal/util/Preconditions" "SIOOBE_FORMATTER" "Ljava/util/function/BiFunction;" fm) (rf : fm.isRef = true) (l2 : cs.length ≤ 4000) (hi : i < cs.length) (hj : j = Int32.ofNat i) (hfr : 4 ≤ R.frames) (hlo : W + 53 ≤ R.locals) :
    Back l R p e below s args (⟨"java/lang/String", "charAt", "(I)C"⟩ : MethodName) len W (fun P a => a = #[.ref x, .int j] ∧ P.U.heap = h ∧ P.cells + 0 ≤ R.cells ∧ P.slots + 0 ≤ R.slots)
      (fun P _ v B => ∃ L, (v = some (.int (cs.getD i 0)) ∧ L = [] ∧ B.U.heap = h) ∧ B.locs = P.locs ++ L ∧ B.cells = P.cells + 0 ∧ B.slots = P.slots + 0) := by
  subst hj
  intro m meth c P g ig mk a X hg hsize hdg hW hn hp'
  obtain ⟨rfl, rfl, r1, r2⟩ := hp'
  have al : Z.vm.Alike P.U.vm := hZ.alike.trans X.warmed.alike
  obtain ⟨A, hx⟩ := txt_of wi al E V C K hc hb l2
  obtain ⟨v, B, X', ⟨⟨hv, hh⟩, hl, hk, hs⟩, st⟩ := ChN.pays x t A cs.length (fun j => cs.getD j 0) z fm i (tabChN_of (movedChN hZ hw)) hfr hlo m meth c P g ig mk _ X hg hsize hdg hW hn ⟨r1, r2, rfl, hx, hi, sta_is al S, hz, sta_is al F, rf⟩
  exact ⟨v, B, X', ⟨[], ⟨hv, rfl, hh⟩, hl, hk, hs⟩, st⟩
/-- what backV says of its String, as the contracts of this text ask it: cs's low bytes, coder 0 -/
theorem codOf {cs : List Int32} {n : Nat} (hn : cs.length = n) (hb : ∀ c ∈ cs, ¬ 255 < c) : CodA cs 0 (Int32.ofNat n) ((cs.map lo8).map Value.int) := Or.inl ⟨rfl, by rw [hn], by simp [List.map_map, Function.comp_def], hb⟩
end StrChars.Road
end Jvm.Pilot.@@N@@
namespace Jvm.Pilot.@@N@@
open Jvm Jvm.ClassFile Sem Op Lib Jvm.Free Jvm.Stand Jvm.LawKit Jvm.RoadKit Bundle Jvm.Own Jvm.Pilot.@@N@@.Jvm.D
/-- a is a String of the chars cs (each 0 to 255), its bytes at t -/
def Str (Z : State) (h : Heap) (a t : Addr) (kb : ClassId) (cs : List Int32) : Prop := Exa Z h a "java/lang/String" ∧ Fld Z h a "java/lang/String" "coder" "B" (.int 0) ∧ Fld Z h a "java/lang/String" "value" "[B" (.ref t) ∧ Arv Z h t kb .byte (Int32.ofNat cs.length) ((cs.map fun c => c.toInt8.toInt32).map Value.int) (.int 0) ∧ (∀ c ∈ cs, ¬ c < 0 ∧ ¬ (255 : Int32) < c) ∧ cs.length ≤ 4000
theorem Str.ext {Z : State} {h h' : Heap} {a t : Addr} {kb : ClassId} {cs : List Int32} (S : Str Z h a t kb cs) (E : Ext h h') : Str Z h' a t kb cs := ⟨S.1.ext E, S.2.1.ext E, S.2.2.1.ext E, S.2.2.2.1.ext E, S.2.2.2.2⟩
theorem Str.keep {Z : State} {h h' : Heap} {a t : Addr} {kb : ClassId} {cs : List Int32} {ws : List Addr} (S : Str Z h a t kb cs) (K : Keep h h' ws) (q1 : a ∉ ws) (q2 : t ∉ ws) : Str Z h' a t kb cs := ⟨S.1.keep K, S.2.1.keep K q1, S.2.2.1.keep K q1, S.2.2.2.1.keep K q2, S.2.2.2.2⟩
theorem Str.cod {Z : State} {h : Heap} {a t : Addr} {kb : ClassId} {cs : List Int32} (S : Str Z h a t kb cs) : StrChars.Road.CodA cs 0 (Int32.ofNat cs.length) ((cs.map fun c => c.toInt8.toInt32).map Value.int) := StrChars.Road.codOf rfl (fun c hc => (S.2.2.2.2.1 c hc).2)
theorem own_up (cs : List Int32) (h : ∀ c ∈ cs, ¬ c < 0 ∧ ¬ (255 : Int32) < c) : ∀ c ∈ cs, ¬ c < 0 ∧ ¬ (65535 : Int32) < c := fun c hc => ⟨(h c hc).1, fun q => (h c hc).2 (by rw [Int32.lt_iff_toInt_lt] at q ⊢; have e1 : (65535 : Int32).toInt = 65535 := rfl; have e2 : (255 : Int32).toInt = 255 := rfl; omega)⟩
section
variable {p : Program} {l : Launch} {e : Env} {R : Room} {s : State} {args : Array Value} {below : List Frame} {W n0 : Nat} {Z : State} {a0 : Array Value} {h : Heap} {a t : Addr} {kb : ClassId} {cs : List Int32} {z : Int32}
theorem own_lenP (hw : ∀ d ∈ tables_1, d.before a0 Z = true) (S : Str Z h a t kb cs) (St : Sta Z h "java/lang/String" "COMPACT_STRINGS" "Z" (.int z)) (hz : ¬ z = 0) (hfr : 2 ≤ R.frames) (hlo : W + 25 ≤ R.locals) :
    Pay l R p e below s args Z (⟨"java/lang/String", "length", "()I"⟩ : MethodName) 3 W #[.ref a] h 0 0 (fun v h' L => (v = some (.int (Int32.ofNat cs.length)) ∧ h = h') ∧ Fr n0 L) :=
  Pay.mono (Q := fun v h' L => v = some (.int (Int32.ofNat cs.length)) ∧ L = [] ∧ h' = h) (fun vm0 hZ => StrChars.Road.lenW (s := s.setVm vm0) (W := W) hZ (fun d hd => hw d ((by decide +kernel : ∀ d ∈ StrChars.Road.wordsLen, d ∈ tables_1) d hd)) (kI := 4) (hw _ (List.mem_of_getElem? (i := 2) rfl)) S.1 S.2.2.1 S.2.1 S.2.2.2.1 S.cod (own_up cs S.2.2.2.2.1) St hz S.2.2.2.2.2 hfr hlo) (fun v h' L q => ⟨⟨q.1, q.2.2.symm⟩, by rw [q.2.1]; exact Fr.nil _⟩)
theorem own_chP (hw : ∀ d ∈ tables_1, d.before a0 Z = true) (S : Str Z h a t kb cs) (St : Sta Z h "java/lang/String" "COMPACT_STRINGS" "Z" (.int z)) (hz : ¬ z = 0) {fm : Value} (F : Sta Z h "jdk/internal/util/Preconditions" "SIOOBE_FORMATTER" "Ljava/util/function/BiFunction;" fm) (rf : fm.isRef = true) {i : Nat} {j : Int32} (hi : i < cs.length) (hj : j = Int32.ofNat i) (hfr : 4 ≤ R.frames) (hlo : W + 53 ≤ R.locals) :
    Pay l R p e below s args Z (⟨"java/lang/String", "charAt", "(I)C"⟩ : MethodName) 3 W #[.ref a, .int j] h 0 0 (fun v h' L => (v = some (.int (cs.getD i 0)) ∧ h = h') ∧ Fr n0 L) :=
  Pay.mono (Q := fun v h' L => v = some (.int (cs.getD i 0)) ∧ L = [] ∧ h' = h) (fun vm0 hZ => StrChars.Road.chN (s := s.setVm vm0) (W := W) hZ (fun d hd => hw d ((by decide +kernel : ∀ d ∈ StrChars.Road.wordsChN, d ∈ tables_1) d hd)) (kI := 4) (hw _ (List.mem_of_getElem? (i := 2) rfl)) S.1 S.2.2.1 S.2.1 S.2.2.2.1 S.cod (own_up cs S.2.2.2.2.1) St hz F rf S.2.2.2.2.2 hi hj hfr hlo) (fun v h' L q => ⟨⟨q.1, q.2.2.symm⟩, by rw [q.2.1]; exact Fr.nil _⟩)
theorem own_eqP (hw : ∀ d ∈ tables_1, d.before a0 Z = true) (S : Str Z h a t kb cs) {b u : Addr} {kb' : ClassId} {ds : List Int32} (S' : Str Z h b u kb' ds) (St : Sta Z h "java/lang/String" "COMPACT_STRINGS" "Z" (.int z)) (hz : ¬ z = 0) (hfr : 2 ≤ R.frames) (hlo : W + 28 ≤ R.locals) :
    Pay l R p e below s args Z (⟨"java/lang/String", "equals", "(Ljava/lang/Object;)Z"⟩ : MethodName) 3 W #[.ref a, .ref b] h 0 0 (fun v h' L => ((v = some (.int (if cs = ds then 1 else 0))) ∧ h = h') ∧ Fr n0 L) :=
  Pay.mono (Q := fun v h' L => ((v = some (.int 1) ∧ cs = ds) ∨ (v = some (.int 0) ∧ ¬ cs = ds)) ∧ L = [] ∧ h' = h) (fun vm0 hZ => StrChars.Road.eqW (s := s.setVm vm0) (W := W) hZ (fun d hd => hw d ((by decide +kernel : ∀ d ∈ StrChars.Road.wordsEq, d ∈ tables_1) d hd)) (kI := 4) (hw _ (List.mem_of_getElem? (i := 2) rfl)) S.1 S.2.2.1 S.2.1 S.2.2.2.1 S.cod (own_up cs S.2.2.2.2.1) S.2.2.2.2.2 S'.1 S'.2.2.1 S'.2.1 S'.2.2.2.1 S'.cod (own_up ds S'.2.2.2.2.1) S'.2.2.2.2.2 St hz hfr hlo) (fun v h' L q => ⟨⟨by rcases q.1 with ⟨r1, r2⟩ | ⟨r1, r2⟩ <;> simp [r1, r2], q.2.2.symm⟩, by rw [q.2.1]; exact Fr.nil _⟩)
theorem own_newP (hw : ∀ d ∈ tables_1, d.before a0 Z = true) {x b : Addr} {kC : ClassId} {d v0 c0 : Value} (hx0 : n0 ≤ x) (hh0 : n0 ≤ h.size) (E : Exa Z h x "java/lang/String") (V : Fld Z h x "java/lang/String" "value" "[B" v0) (C : Fld Z h x "java/lang/String" "coder" "B" c0) (K : Arv Z h b kC .char (Int32.ofNat cs.length) (cs.map Value.int) d)
    (St : Sta Z h "java/lang/String" "COMPACT_STRINGS" "Z" (.int z)) (hz : ¬ z = 0) (l0 : 0 < cs.length) (l2 : cs.length ≤ 4000) (hp : ∀ c ∈ cs, ¬ c < 0 ∧ ¬ (255 : Int32) < c) (hfr : 4 ≤ R.frames) (hlo : W + 65 ≤ R.locals) :
    Pay l R p e below s args Z (⟨"java/lang/String", "<init>", "([C)V"⟩ : MethodName) 3 W #[.ref x, .ref b] h 1 cs.length (fun v h' L => (v = none ∧ Keep h h' [x] ∧ ∃ t kb, h.size ≤ t ∧ Str Z h' x t kb cs) ∧ Fr n0 L) :=
  Pay.mono (Q := StrChars.Road.QV Z x (Int32.ofNat cs.length) (cs.map (fun c => c.toInt8.toInt32)) h n0) (fun vm0 hZ => StrChars.Road.backV (s := s.setVm vm0) (W := W) hZ (fun d hd => hw d ((by decide +kernel : ∀ d ∈ StrChars.Road.words, d ∈ tables_1) d hd)) (kI := 4) (hw _ (List.mem_of_getElem? (i := 2) rfl)) (cs := cs) (bs := cs.map (fun c => c.toInt8.toInt32)) (n := cs.length) hx0 hh0 E V C K St hz rfl rfl l0 l2 hp rfl hfr hlo) (fun v h' L q => by
    obtain ⟨q1, q2, q3, q4, q5, t, kb, -, q6, -, q7, q8⟩ := q
    exact ⟨⟨q1, q3, t, kb, q6, q4, q5, q7, q8, hp, l2⟩, q2⟩)
end
end Jvm.Pilot.@@N@@
namespace Jvm.Pilot.@@N@@
open Jvm Jvm.ClassFile Sem Op Lib Jvm.Free Jvm.Stand Jvm.LawKit Jvm.RoadKit Bundle Jvm.Own Jvm.Pilot.@@N@@.Jvm.D
theorem pn_com_example_llave_llave_policy_ObjectiveOfPinLaw : plainName "com/example/llave/llave/policy/ObjectiveOfPinLaw" = true := by first | (simp [plainName, overriddenIn]; done) | decide +kernel
theorem d4_0 : decode method_2_code 0 = .ok (.iload_n 1, 1) := by decide +kernel
theorem d4_1 : decode method_2_code 1 = .ok (.aload_n 0, 1) := by decide +kernel
theorem d4_2 : decode method_2_code 2 = .ok (.invokevirtual 7, 3) := by decide +kernel
theorem pd___I : parseMethodDescriptor "()I" = some ⟨[], some .int⟩ := by decide +kernel
theorem d4_5 : decode method_2_code 5 = .ok (.if_icmp .ge 11, 3) := by decide +kernel
theorem d4_16 : decode method_2_code 16 = .ok (.iload_n 2, 1) := by decide +kernel
theorem d4_17 : decode method_2_code 17 = .ok (.ireturn, 1) := by decide +kernel
theorem d4_8 : decode method_2_code 8 = .ok (.aload_n 0, 1) := by decide +kernel
theorem d4_9 : decode method_2_code 9 = .ok (.iload_n 1, 1) := by decide +kernel
theorem d4_10 : decode method_2_code 10 = .ok (.invokevirtual 13, 3) := by decide +kernel
theorem pd__I_C : parseMethodDescriptor "(I)C" = some ⟨[.int], some .char⟩ := by decide +kernel
theorem d4_13 : decode method_2_code 13 = .ok (.goto 4, 3) := by decide +kernel
theorem d3_0 : decode method_3_code 0 = .ok (.iload_n 1, 1) := by decide +kernel
theorem d3_1 : decode method_3_code 1 = .ok (.newarray .char, 2) := by decide +kernel
theorem d3_3 : decode method_3_code 3 = .ok (.astore_n 3, 1) := by decide +kernel
theorem d3_257 : decode method_3_code 257 = .ok (.new 8, 3) := by decide +kernel
theorem d3_260 : decode method_3_code 260 = .ok (.dup, 1) := by decide +kernel
theorem d3_261 : decode method_3_code 261 = .ok (.aload_n 3, 1) := by decide +kernel
theorem d3_262 : decode method_3_code 262 = .ok (.invokespecial 23, 3) := by decide +kernel
theorem pd___C_V : parseMethodDescriptor "([C)V" = some ⟨[(.array .char)], none⟩ := by decide +kernel
theorem d3_265 : decode method_3_code 265 = .ok (.areturn, 1) := by decide +kernel
theorem d3_240 : decode method_3_code 240 = .ok (.iload_n 1, 1) := by decide +kernel
theorem d3_241 : decode method_3_code 241 = .ok (.bipush 15, 2) := by decide +kernel
theorem d3_243 : decode method_3_code 243 = .ok (.if_icmp .le 14, 3) := by decide +kernel
theorem d3_246 : decode method_3_code 246 = .ok (.aload_n 3, 1) := by decide +kernel
theorem d3_247 : decode method_3_code 247 = .ok (.bipush 15, 2) := by decide +kernel
theorem d3_249 : decode method_3_code 249 = .ok (.aload_n 0, 1) := by decide +kernel
theorem d3_250 : decode method_3_code 250 = .ok (.bipush 15, 2) := by decide +kernel
theorem d3_252 : decode method_3_code 252 = .ok (.iload_n 2, 1) := by decide +kernel
theorem d3_253 : decode method_3_code 253 = .ok (.invokestatic 17, 3) := by decide +kernel
theorem pd__Ljava_lang_String_IC_C : parseMethodDescriptor "(Ljava/lang/String;IC)C" = some ⟨[(.object "java/lang/String"), .int, .char], some .char⟩ := by decide +kernel
theorem d3_256 : decode method_3_code 256 = .ok (.castore, 1) := by decide +kernel
theorem d3_223 : decode method_3_code 223 = .ok (.iload_n 1, 1) := by decide +kernel
theorem d3_224 : decode method_3_code 224 = .ok (.bipush 14, 2) := by decide +kernel
theorem d3_226 : decode method_3_code 226 = .ok (.if_icmp .le 14, 3) := by decide +kernel
theorem d3_229 : decode method_3_code 229 = .ok (.aload_n 3, 1) := by decide +kernel
theorem d3_230 : decode method_3_code 230 = .ok (.bipush 14, 2) := by decide +kernel
theorem d3_232 : decode method_3_code 232 = .ok (.aload_n 0, 1) := by decide +kernel
theorem d3_233 : decode method_3_code 233 = .ok (.bipush 14, 2) := by decide +kernel
theorem d3_235 : decode method_3_code 235 = .ok (.iload_n 2, 1) := by decide +kernel
theorem d3_236 : decode method_3_code 236 = .ok (.invokestatic 17, 3) := by decide +kernel
theorem d3_239 : decode method_3_code 239 = .ok (.castore, 1) := by decide +kernel
theorem d3_206 : decode method_3_code 206 = .ok (.iload_n 1, 1) := by decide +kernel
theorem d3_207 : decode method_3_code 207 = .ok (.bipush 13, 2) := by decide +kernel
theorem d3_209 : decode method_3_code 209 = .ok (.if_icmp .le 14, 3) := by decide +kernel
theorem d3_212 : decode method_3_code 212 = .ok (.aload_n 3, 1) := by decide +kernel
theorem d3_213 : decode method_3_code 213 = .ok (.bipush 13, 2) := by decide +kernel
theorem d3_215 : decode method_3_code 215 = .ok (.aload_n 0, 1) := by decide +kernel
theorem d3_216 : decode method_3_code 216 = .ok (.bipush 13, 2) := by decide +kernel
theorem d3_218 : decode method_3_code 218 = .ok (.iload_n 2, 1) := by decide +kernel
theorem d3_219 : decode method_3_code 219 = .ok (.invokestatic 17, 3) := by decide +kernel
theorem d3_222 : decode method_3_code 222 = .ok (.castore, 1) := by decide +kernel
theorem d3_189 : decode method_3_code 189 = .ok (.iload_n 1, 1) := by decide +kernel
theorem d3_190 : decode method_3_code 190 = .ok (.bipush 12, 2) := by decide +kernel
theorem d3_192 : decode method_3_code 192 = .ok (.if_icmp .le 14, 3) := by decide +kernel
theorem d3_195 : decode method_3_code 195 = .ok (.aload_n 3, 1) := by decide +kernel
theorem d3_196 : decode method_3_code 196 = .ok (.bipush 12, 2) := by decide +kernel
theorem d3_198 : decode method_3_code 198 = .ok (.aload_n 0, 1) := by decide +kernel
theorem d3_199 : decode method_3_code 199 = .ok (.bipush 12, 2) := by decide +kernel
theorem d3_201 : decode method_3_code 201 = .ok (.iload_n 2, 1) := by decide +kernel
theorem d3_202 : decode method_3_code 202 = .ok (.invokestatic 17, 3) := by decide +kernel
theorem d3_205 : decode method_3_code 205 = .ok (.castore, 1) := by decide +kernel
theorem d3_172 : decode method_3_code 172 = .ok (.iload_n 1, 1) := by decide +kernel
theorem d3_173 : decode method_3_code 173 = .ok (.bipush 11, 2) := by decide +kernel
theorem d3_175 : decode method_3_code 175 = .ok (.if_icmp .le 14, 3) := by decide +kernel
theorem d3_178 : decode method_3_code 178 = .ok (.aload_n 3, 1) := by decide +kernel
theorem d3_179 : decode method_3_code 179 = .ok (.bipush 11, 2) := by decide +kernel
theorem d3_181 : decode method_3_code 181 = .ok (.aload_n 0, 1) := by decide +kernel
theorem d3_182 : decode method_3_code 182 = .ok (.bipush 11, 2) := by decide +kernel
theorem d3_184 : decode method_3_code 184 = .ok (.iload_n 2, 1) := by decide +kernel
theorem d3_185 : decode method_3_code 185 = .ok (.invokestatic 17, 3) := by decide +kernel
theorem d3_188 : decode method_3_code 188 = .ok (.castore, 1) := by decide +kernel
theorem d3_155 : decode method_3_code 155 = .ok (.iload_n 1, 1) := by decide +kernel
theorem d3_156 : decode method_3_code 156 = .ok (.bipush 10, 2) := by decide +kernel
theorem d3_158 : decode method_3_code 158 = .ok (.if_icmp .le 14, 3) := by decide +kernel
theorem d3_161 : decode method_3_code 161 = .ok (.aload_n 3, 1) := by decide +kernel
theorem d3_162 : decode method_3_code 162 = .ok (.bipush 10, 2) := by decide +kernel
theorem d3_164 : decode method_3_code 164 = .ok (.aload_n 0, 1) := by decide +kernel
theorem d3_165 : decode method_3_code 165 = .ok (.bipush 10, 2) := by decide +kernel
theorem d3_167 : decode method_3_code 167 = .ok (.iload_n 2, 1) := by decide +kernel
theorem d3_168 : decode method_3_code 168 = .ok (.invokestatic 17, 3) := by decide +kernel
theorem d3_171 : decode method_3_code 171 = .ok (.castore, 1) := by decide +kernel
theorem d3_138 : decode method_3_code 138 = .ok (.iload_n 1, 1) := by decide +kernel
theorem d3_139 : decode method_3_code 139 = .ok (.bipush 9, 2) := by decide +kernel
theorem d3_141 : decode method_3_code 141 = .ok (.if_icmp .le 14, 3) := by decide +kernel
theorem d3_144 : decode method_3_code 144 = .ok (.aload_n 3, 1) := by decide +kernel
theorem d3_145 : decode method_3_code 145 = .ok (.bipush 9, 2) := by decide +kernel
theorem d3_147 : decode method_3_code 147 = .ok (.aload_n 0, 1) := by decide +kernel
theorem d3_148 : decode method_3_code 148 = .ok (.bipush 9, 2) := by decide +kernel
theorem d3_150 : decode method_3_code 150 = .ok (.iload_n 2, 1) := by decide +kernel
theorem d3_151 : decode method_3_code 151 = .ok (.invokestatic 17, 3) := by decide +kernel
theorem d3_154 : decode method_3_code 154 = .ok (.castore, 1) := by decide +kernel
theorem d3_121 : decode method_3_code 121 = .ok (.iload_n 1, 1) := by decide +kernel
theorem d3_122 : decode method_3_code 122 = .ok (.bipush 8, 2) := by decide +kernel
theorem d3_124 : decode method_3_code 124 = .ok (.if_icmp .le 14, 3) := by decide +kernel
theorem d3_127 : decode method_3_code 127 = .ok (.aload_n 3, 1) := by decide +kernel
theorem d3_128 : decode method_3_code 128 = .ok (.bipush 8, 2) := by decide +kernel
theorem d3_130 : decode method_3_code 130 = .ok (.aload_n 0, 1) := by decide +kernel
theorem d3_131 : decode method_3_code 131 = .ok (.bipush 8, 2) := by decide +kernel
theorem d3_133 : decode method_3_code 133 = .ok (.iload_n 2, 1) := by decide +kernel
theorem d3_134 : decode method_3_code 134 = .ok (.invokestatic 17, 3) := by decide +kernel
theorem d3_137 : decode method_3_code 137 = .ok (.castore, 1) := by decide +kernel
theorem d3_104 : decode method_3_code 104 = .ok (.iload_n 1, 1) := by decide +kernel
theorem d3_105 : decode method_3_code 105 = .ok (.bipush 7, 2) := by decide +kernel
theorem d3_107 : decode method_3_code 107 = .ok (.if_icmp .le 14, 3) := by decide +kernel
theorem d3_110 : decode method_3_code 110 = .ok (.aload_n 3, 1) := by decide +kernel
theorem d3_111 : decode method_3_code 111 = .ok (.bipush 7, 2) := by decide +kernel
theorem d3_113 : decode method_3_code 113 = .ok (.aload_n 0, 1) := by decide +kernel
theorem d3_114 : decode method_3_code 114 = .ok (.bipush 7, 2) := by decide +kernel
theorem d3_116 : decode method_3_code 116 = .ok (.iload_n 2, 1) := by decide +kernel
theorem d3_117 : decode method_3_code 117 = .ok (.invokestatic 17, 3) := by decide +kernel
theorem d3_120 : decode method_3_code 120 = .ok (.castore, 1) := by decide +kernel
theorem d3_87 : decode method_3_code 87 = .ok (.iload_n 1, 1) := by decide +kernel
theorem d3_88 : decode method_3_code 88 = .ok (.bipush 6, 2) := by decide +kernel
theorem d3_90 : decode method_3_code 90 = .ok (.if_icmp .le 14, 3) := by decide +kernel
theorem d3_93 : decode method_3_code 93 = .ok (.aload_n 3, 1) := by decide +kernel
theorem d3_94 : decode method_3_code 94 = .ok (.bipush 6, 2) := by decide +kernel
theorem d3_96 : decode method_3_code 96 = .ok (.aload_n 0, 1) := by decide +kernel
theorem d3_97 : decode method_3_code 97 = .ok (.bipush 6, 2) := by decide +kernel
theorem d3_99 : decode method_3_code 99 = .ok (.iload_n 2, 1) := by decide +kernel
theorem d3_100 : decode method_3_code 100 = .ok (.invokestatic 17, 3) := by decide +kernel
theorem d3_103 : decode method_3_code 103 = .ok (.castore, 1) := by decide +kernel
theorem d3_73 : decode method_3_code 73 = .ok (.iload_n 1, 1) := by decide +kernel
theorem d3_74 : decode method_3_code 74 = .ok (.iconst 5, 1) := by decide +kernel
theorem d3_75 : decode method_3_code 75 = .ok (.if_icmp .le 12, 3) := by decide +kernel
theorem d3_78 : decode method_3_code 78 = .ok (.aload_n 3, 1) := by decide +kernel
theorem d3_79 : decode method_3_code 79 = .ok (.iconst 5, 1) := by decide +kernel
theorem d3_80 : decode method_3_code 80 = .ok (.aload_n 0, 1) := by decide +kernel
theorem d3_81 : decode method_3_code 81 = .ok (.iconst 5, 1) := by decide +kernel
theorem d3_82 : decode method_3_code 82 = .ok (.iload_n 2, 1) := by decide +kernel
theorem d3_83 : decode method_3_code 83 = .ok (.invokestatic 17, 3) := by decide +kernel
theorem d3_86 : decode method_3_code 86 = .ok (.castore, 1) := by decide +kernel
theorem d3_59 : decode method_3_code 59 = .ok (.iload_n 1, 1) := by decide +kernel
theorem d3_60 : decode method_3_code 60 = .ok (.iconst 4, 1) := by decide +kernel
theorem d3_61 : decode method_3_code 61 = .ok (.if_icmp .le 12, 3) := by decide +kernel
theorem d3_64 : decode method_3_code 64 = .ok (.aload_n 3, 1) := by decide +kernel
theorem d3_65 : decode method_3_code 65 = .ok (.iconst 4, 1) := by decide +kernel
theorem d3_66 : decode method_3_code 66 = .ok (.aload_n 0, 1) := by decide +kernel
theorem d3_67 : decode method_3_code 67 = .ok (.iconst 4, 1) := by decide +kernel
theorem d3_68 : decode method_3_code 68 = .ok (.iload_n 2, 1) := by decide +kernel
theorem d3_69 : decode method_3_code 69 = .ok (.invokestatic 17, 3) := by decide +kernel
theorem d3_72 : decode method_3_code 72 = .ok (.castore, 1) := by decide +kernel
theorem d3_45 : decode method_3_code 45 = .ok (.iload_n 1, 1) := by decide +kernel
theorem d3_46 : decode method_3_code 46 = .ok (.iconst 3, 1) := by decide +kernel
theorem d3_47 : decode method_3_code 47 = .ok (.if_icmp .le 12, 3) := by decide +kernel
theorem d3_50 : decode method_3_code 50 = .ok (.aload_n 3, 1) := by decide +kernel
theorem d3_51 : decode method_3_code 51 = .ok (.iconst 3, 1) := by decide +kernel
theorem d3_52 : decode method_3_code 52 = .ok (.aload_n 0, 1) := by decide +kernel
theorem d3_53 : decode method_3_code 53 = .ok (.iconst 3, 1) := by decide +kernel
theorem d3_54 : decode method_3_code 54 = .ok (.iload_n 2, 1) := by decide +kernel
theorem d3_55 : decode method_3_code 55 = .ok (.invokestatic 17, 3) := by decide +kernel
theorem d3_58 : decode method_3_code 58 = .ok (.castore, 1) := by decide +kernel
theorem d3_31 : decode method_3_code 31 = .ok (.iload_n 1, 1) := by decide +kernel
theorem d3_32 : decode method_3_code 32 = .ok (.iconst 2, 1) := by decide +kernel
theorem d3_33 : decode method_3_code 33 = .ok (.if_icmp .le 12, 3) := by decide +kernel
theorem d3_36 : decode method_3_code 36 = .ok (.aload_n 3, 1) := by decide +kernel
theorem d3_37 : decode method_3_code 37 = .ok (.iconst 2, 1) := by decide +kernel
theorem d3_38 : decode method_3_code 38 = .ok (.aload_n 0, 1) := by decide +kernel
theorem d3_39 : decode method_3_code 39 = .ok (.iconst 2, 1) := by decide +kernel
theorem d3_40 : decode method_3_code 40 = .ok (.iload_n 2, 1) := by decide +kernel
theorem d3_41 : decode method_3_code 41 = .ok (.invokestatic 17, 3) := by decide +kernel
theorem d3_44 : decode method_3_code 44 = .ok (.castore, 1) := by decide +kernel
theorem d3_17 : decode method_3_code 17 = .ok (.iload_n 1, 1) := by decide +kernel
theorem d3_18 : decode method_3_code 18 = .ok (.iconst 1, 1) := by decide +kernel
theorem d3_19 : decode method_3_code 19 = .ok (.if_icmp .le 12, 3) := by decide +kernel
theorem d3_22 : decode method_3_code 22 = .ok (.aload_n 3, 1) := by decide +kernel
theorem d3_23 : decode method_3_code 23 = .ok (.iconst 1, 1) := by decide +kernel
theorem d3_24 : decode method_3_code 24 = .ok (.aload_n 0, 1) := by decide +kernel
theorem d3_25 : decode method_3_code 25 = .ok (.iconst 1, 1) := by decide +kernel
theorem d3_26 : decode method_3_code 26 = .ok (.iload_n 2, 1) := by decide +kernel
theorem d3_27 : decode method_3_code 27 = .ok (.invokestatic 17, 3) := by decide +kernel
theorem d3_30 : decode method_3_code 30 = .ok (.castore, 1) := by decide +kernel
theorem d3_4 : decode method_3_code 4 = .ok (.iload_n 1, 1) := by decide +kernel
theorem d3_5 : decode method_3_code 5 = .ok (.ifCond .le 12, 3) := by decide +kernel
theorem d3_8 : decode method_3_code 8 = .ok (.aload_n 3, 1) := by decide +kernel
theorem d3_9 : decode method_3_code 9 = .ok (.iconst 0, 1) := by decide +kernel
theorem d3_10 : decode method_3_code 10 = .ok (.aload_n 0, 1) := by decide +kernel
theorem d3_11 : decode method_3_code 11 = .ok (.iconst 0, 1) := by decide +kernel
theorem d3_12 : decode method_3_code 12 = .ok (.iload_n 2, 1) := by decide +kernel
theorem d3_13 : decode method_3_code 13 = .ok (.invokestatic 17, 3) := by decide +kernel
theorem d3_16 : decode method_3_code 16 = .ok (.castore, 1) := by decide +kernel
theorem d22_0 : decode method_4_code 0 = .ok (.iload_n 1, 1) := by decide +kernel
theorem d22_1 : decode method_4_code 1 = .ok (.newarray .char, 2) := by decide +kernel
theorem d22_3 : decode method_4_code 3 = .ok (.astore 4, 2) := by decide +kernel
theorem d22_274 : decode method_4_code 274 = .ok (.aload 4, 2) := by decide +kernel
theorem d22_276 : decode method_4_code 276 = .ok (.iload_n 2, 1) := by decide +kernel
theorem d22_277 : decode method_4_code 277 = .ok (.iload_n 3, 1) := by decide +kernel
theorem d22_278 : decode method_4_code 278 = .ok (.castore, 1) := by decide +kernel
theorem d22_279 : decode method_4_code 279 = .ok (.new 8, 3) := by decide +kernel
theorem d22_282 : decode method_4_code 282 = .ok (.dup, 1) := by decide +kernel
theorem d22_283 : decode method_4_code 283 = .ok (.aload 4, 2) := by decide +kernel
theorem d22_285 : decode method_4_code 285 = .ok (.invokespecial 23, 3) := by decide +kernel
theorem d22_288 : decode method_4_code 288 = .ok (.areturn, 1) := by decide +kernel
theorem d22_256 : decode method_4_code 256 = .ok (.iload_n 1, 1) := by decide +kernel
theorem d22_257 : decode method_4_code 257 = .ok (.bipush 15, 2) := by decide +kernel
theorem d22_259 : decode method_4_code 259 = .ok (.if_icmp .le 15, 3) := by decide +kernel
theorem d22_262 : decode method_4_code 262 = .ok (.aload 4, 2) := by decide +kernel
theorem d22_264 : decode method_4_code 264 = .ok (.bipush 15, 2) := by decide +kernel
theorem d22_266 : decode method_4_code 266 = .ok (.aload_n 0, 1) := by decide +kernel
theorem d22_267 : decode method_4_code 267 = .ok (.bipush 15, 2) := by decide +kernel
theorem d22_269 : decode method_4_code 269 = .ok (.iload_n 3, 1) := by decide +kernel
theorem d22_270 : decode method_4_code 270 = .ok (.invokestatic 17, 3) := by decide +kernel
theorem d22_273 : decode method_4_code 273 = .ok (.castore, 1) := by decide +kernel
theorem d22_238 : decode method_4_code 238 = .ok (.iload_n 1, 1) := by decide +kernel
theorem d22_239 : decode method_4_code 239 = .ok (.bipush 14, 2) := by decide +kernel
theorem d22_241 : decode method_4_code 241 = .ok (.if_icmp .le 15, 3) := by decide +kernel
theorem d22_244 : decode method_4_code 244 = .ok (.aload 4, 2) := by decide +kernel
theorem d22_246 : decode method_4_code 246 = .ok (.bipush 14, 2) := by decide +kernel
theorem d22_248 : decode method_4_code 248 = .ok (.aload_n 0, 1) := by decide +kernel
theorem d22_249 : decode method_4_code 249 = .ok (.bipush 14, 2) := by decide +kernel
theorem d22_251 : decode method_4_code 251 = .ok (.iload_n 3, 1) := by decide +kernel
theorem d22_252 : decode method_4_code 252 = .ok (.invokestatic 17, 3) := by decide +kernel
theorem d22_255 : decode method_4_code 255 = .ok (.castore, 1) := by decide +kernel
theorem d22_220 : decode method_4_code 220 = .ok (.iload_n 1, 1) := by decide +kernel
theorem d22_221 : decode method_4_code 221 = .ok (.bipush 13, 2) := by decide +kernel
theorem d22_223 : decode method_4_code 223 = .ok (.if_icmp .le 15, 3) := by decide +kernel
theorem d22_226 : decode method_4_code 226 = .ok (.aload 4, 2) := by decide +kernel
theorem d22_228 : decode method_4_code 228 = .ok (.bipush 13, 2) := by decide +kernel
theorem d22_230 : decode method_4_code 230 = .ok (.aload_n 0, 1) := by decide +kernel
theorem d22_231 : decode method_4_code 231 = .ok (.bipush 13, 2) := by decide +kernel
theorem d22_233 : decode method_4_code 233 = .ok (.iload_n 3, 1) := by decide +kernel
theorem d22_234 : decode method_4_code 234 = .ok (.invokestatic 17, 3) := by decide +kernel
theorem d22_237 : decode method_4_code 237 = .ok (.castore, 1) := by decide +kernel
theorem d22_202 : decode method_4_code 202 = .ok (.iload_n 1, 1) := by decide +kernel
theorem d22_203 : decode method_4_code 203 = .ok (.bipush 12, 2) := by decide +kernel
theorem d22_205 : decode method_4_code 205 = .ok (.if_icmp .le 15, 3) := by decide +kernel
theorem d22_208 : decode method_4_code 208 = .ok (.aload 4, 2) := by decide +kernel
theorem d22_210 : decode method_4_code 210 = .ok (.bipush 12, 2) := by decide +kernel
theorem d22_212 : decode method_4_code 212 = .ok (.aload_n 0, 1) := by decide +kernel
theorem d22_213 : decode method_4_code 213 = .ok (.bipush 12, 2) := by decide +kernel
theorem d22_215 : decode method_4_code 215 = .ok (.iload_n 3, 1) := by decide +kernel
theorem d22_216 : decode method_4_code 216 = .ok (.invokestatic 17, 3) := by decide +kernel
theorem d22_219 : decode method_4_code 219 = .ok (.castore, 1) := by decide +kernel
theorem d22_184 : decode method_4_code 184 = .ok (.iload_n 1, 1) := by decide +kernel
theorem d22_185 : decode method_4_code 185 = .ok (.bipush 11, 2) := by decide +kernel
theorem d22_187 : decode method_4_code 187 = .ok (.if_icmp .le 15, 3) := by decide +kernel
theorem d22_190 : decode method_4_code 190 = .ok (.aload 4, 2) := by decide +kernel
theorem d22_192 : decode method_4_code 192 = .ok (.bipush 11, 2) := by decide +kernel
theorem d22_194 : decode method_4_code 194 = .ok (.aload_n 0, 1) := by decide +kernel
theorem d22_195 : decode method_4_code 195 = .ok (.bipush 11, 2) := by decide +kernel
theorem d22_197 : decode method_4_code 197 = .ok (.iload_n 3, 1) := by decide +kernel
theorem d22_198 : decode method_4_code 198 = .ok (.invokestatic 17, 3) := by decide +kernel
theorem d22_201 : decode method_4_code 201 = .ok (.castore, 1) := by decide +kernel
theorem d22_166 : decode method_4_code 166 = .ok (.iload_n 1, 1) := by decide +kernel
theorem d22_167 : decode method_4_code 167 = .ok (.bipush 10, 2) := by decide +kernel
theorem d22_169 : decode method_4_code 169 = .ok (.if_icmp .le 15, 3) := by decide +kernel
theorem d22_172 : decode method_4_code 172 = .ok (.aload 4, 2) := by decide +kernel
theorem d22_174 : decode method_4_code 174 = .ok (.bipush 10, 2) := by decide +kernel
theorem d22_176 : decode method_4_code 176 = .ok (.aload_n 0, 1) := by decide +kernel
theorem d22_177 : decode method_4_code 177 = .ok (.bipush 10, 2) := by decide +kernel
theorem d22_179 : decode method_4_code 179 = .ok (.iload_n 3, 1) := by decide +kernel
theorem d22_180 : decode method_4_code 180 = .ok (.invokestatic 17, 3) := by decide +kernel
theorem d22_183 : decode method_4_code 183 = .ok (.castore, 1) := by decide +kernel
theorem d22_148 : decode method_4_code 148 = .ok (.iload_n 1, 1) := by decide +kernel
theorem d22_149 : decode method_4_code 149 = .ok (.bipush 9, 2) := by decide +kernel
theorem d22_151 : decode method_4_code 151 = .ok (.if_icmp .le 15, 3) := by decide +kernel
theorem d22_154 : decode method_4_code 154 = .ok (.aload 4, 2) := by decide +kernel
theorem d22_156 : decode method_4_code 156 = .ok (.bipush 9, 2) := by decide +kernel
theorem d22_158 : decode method_4_code 158 = .ok (.aload_n 0, 1) := by decide +kernel
theorem d22_159 : decode method_4_code 159 = .ok (.bipush 9, 2) := by decide +kernel
theorem d22_161 : decode method_4_code 161 = .ok (.iload_n 3, 1) := by decide +kernel
theorem d22_162 : decode method_4_code 162 = .ok (.invokestatic 17, 3) := by decide +kernel
theorem d22_165 : decode method_4_code 165 = .ok (.castore, 1) := by decide +kernel
theorem d22_130 : decode method_4_code 130 = .ok (.iload_n 1, 1) := by decide +kernel
theorem d22_131 : decode method_4_code 131 = .ok (.bipush 8, 2) := by decide +kernel
theorem d22_133 : decode method_4_code 133 = .ok (.if_icmp .le 15, 3) := by decide +kernel
theorem d22_136 : decode method_4_code 136 = .ok (.aload 4, 2) := by decide +kernel
theorem d22_138 : decode method_4_code 138 = .ok (.bipush 8, 2) := by decide +kernel
theorem d22_140 : decode method_4_code 140 = .ok (.aload_n 0, 1) := by decide +kernel
theorem d22_141 : decode method_4_code 141 = .ok (.bipush 8, 2) := by decide +kernel
theorem d22_143 : decode method_4_code 143 = .ok (.iload_n 3, 1) := by decide +kernel
theorem d22_144 : decode method_4_code 144 = .ok (.invokestatic 17, 3) := by decide +kernel
theorem d22_147 : decode method_4_code 147 = .ok (.castore, 1) := by decide +kernel
theorem d22_112 : decode method_4_code 112 = .ok (.iload_n 1, 1) := by decide +kernel
theorem d22_113 : decode method_4_code 113 = .ok (.bipush 7, 2) := by decide +kernel
theorem d22_115 : decode method_4_code 115 = .ok (.if_icmp .le 15, 3) := by decide +kernel
theorem d22_118 : decode method_4_code 118 = .ok (.aload 4, 2) := by decide +kernel
theorem d22_120 : decode method_4_code 120 = .ok (.bipush 7, 2) := by decide +kernel
theorem d22_122 : decode method_4_code 122 = .ok (.aload_n 0, 1) := by decide +kernel
theorem d22_123 : decode method_4_code 123 = .ok (.bipush 7, 2) := by decide +kernel
theorem d22_125 : decode method_4_code 125 = .ok (.iload_n 3, 1) := by decide +kernel
theorem d22_126 : decode method_4_code 126 = .ok (.invokestatic 17, 3) := by decide +kernel
theorem d22_129 : decode method_4_code 129 = .ok (.castore, 1) := by decide +kernel
theorem d22_94 : decode method_4_code 94 = .ok (.iload_n 1, 1) := by decide +kernel
theorem d22_95 : decode method_4_code 95 = .ok (.bipush 6, 2) := by decide +kernel
theorem d22_97 : decode method_4_code 97 = .ok (.if_icmp .le 15, 3) := by decide +kernel
theorem d22_100 : decode method_4_code 100 = .ok (.aload 4, 2) := by decide +kernel
theorem d22_102 : decode method_4_code 102 = .ok (.bipush 6, 2) := by decide +kernel
theorem d22_104 : decode method_4_code 104 = .ok (.aload_n 0, 1) := by decide +kernel
theorem d22_105 : decode method_4_code 105 = .ok (.bipush 6, 2) := by decide +kernel
theorem d22_107 : decode method_4_code 107 = .ok (.iload_n 3, 1) := by decide +kernel
theorem d22_108 : decode method_4_code 108 = .ok (.invokestatic 17, 3) := by decide +kernel
theorem d22_111 : decode method_4_code 111 = .ok (.castore, 1) := by decide +kernel
theorem d22_79 : decode method_4_code 79 = .ok (.iload_n 1, 1) := by decide +kernel
theorem d22_80 : decode method_4_code 80 = .ok (.iconst 5, 1) := by decide +kernel
theorem d22_81 : decode method_4_code 81 = .ok (.if_icmp .le 13, 3) := by decide +kernel
theorem d22_84 : decode method_4_code 84 = .ok (.aload 4, 2) := by decide +kernel
theorem d22_86 : decode method_4_code 86 = .ok (.iconst 5, 1) := by decide +kernel
theorem d22_87 : decode method_4_code 87 = .ok (.aload_n 0, 1) := by decide +kernel
theorem d22_88 : decode method_4_code 88 = .ok (.iconst 5, 1) := by decide +kernel
theorem d22_89 : decode method_4_code 89 = .ok (.iload_n 3, 1) := by decide +kernel
theorem d22_90 : decode method_4_code 90 = .ok (.invokestatic 17, 3) := by decide +kernel
theorem d22_93 : decode method_4_code 93 = .ok (.castore, 1) := by decide +kernel
theorem d22_64 : decode method_4_code 64 = .ok (.iload_n 1, 1) := by decide +kernel
theorem d22_65 : decode method_4_code 65 = .ok (.iconst 4, 1) := by decide +kernel
theorem d22_66 : decode method_4_code 66 = .ok (.if_icmp .le 13, 3) := by decide +kernel
theorem d22_69 : decode method_4_code 69 = .ok (.aload 4, 2) := by decide +kernel
theorem d22_71 : decode method_4_code 71 = .ok (.iconst 4, 1) := by decide +kernel
theorem d22_72 : decode method_4_code 72 = .ok (.aload_n 0, 1) := by decide +kernel
theorem d22_73 : decode method_4_code 73 = .ok (.iconst 4, 1) := by decide +kernel
theorem d22_74 : decode method_4_code 74 = .ok (.iload_n 3, 1) := by decide +kernel
theorem d22_75 : decode method_4_code 75 = .ok (.invokestatic 17, 3) := by decide +kernel
theorem d22_78 : decode method_4_code 78 = .ok (.castore, 1) := by decide +kernel
theorem d22_49 : decode method_4_code 49 = .ok (.iload_n 1, 1) := by decide +kernel
theorem d22_50 : decode method_4_code 50 = .ok (.iconst 3, 1) := by decide +kernel
theorem d22_51 : decode method_4_code 51 = .ok (.if_icmp .le 13, 3) := by decide +kernel
theorem d22_54 : decode method_4_code 54 = .ok (.aload 4, 2) := by decide +kernel
theorem d22_56 : decode method_4_code 56 = .ok (.iconst 3, 1) := by decide +kernel
theorem d22_57 : decode method_4_code 57 = .ok (.aload_n 0, 1) := by decide +kernel
theorem d22_58 : decode method_4_code 58 = .ok (.iconst 3, 1) := by decide +kernel
theorem d22_59 : decode method_4_code 59 = .ok (.iload_n 3, 1) := by decide +kernel
theorem d22_60 : decode method_4_code 60 = .ok (.invokestatic 17, 3) := by decide +kernel
theorem d22_63 : decode method_4_code 63 = .ok (.castore, 1) := by decide +kernel
theorem d22_34 : decode method_4_code 34 = .ok (.iload_n 1, 1) := by decide +kernel
theorem d22_35 : decode method_4_code 35 = .ok (.iconst 2, 1) := by decide +kernel
theorem d22_36 : decode method_4_code 36 = .ok (.if_icmp .le 13, 3) := by decide +kernel
theorem d22_39 : decode method_4_code 39 = .ok (.aload 4, 2) := by decide +kernel
theorem d22_41 : decode method_4_code 41 = .ok (.iconst 2, 1) := by decide +kernel
theorem d22_42 : decode method_4_code 42 = .ok (.aload_n 0, 1) := by decide +kernel
theorem d22_43 : decode method_4_code 43 = .ok (.iconst 2, 1) := by decide +kernel
theorem d22_44 : decode method_4_code 44 = .ok (.iload_n 3, 1) := by decide +kernel
theorem d22_45 : decode method_4_code 45 = .ok (.invokestatic 17, 3) := by decide +kernel
theorem d22_48 : decode method_4_code 48 = .ok (.castore, 1) := by decide +kernel
theorem d22_19 : decode method_4_code 19 = .ok (.iload_n 1, 1) := by decide +kernel
theorem d22_20 : decode method_4_code 20 = .ok (.iconst 1, 1) := by decide +kernel
theorem d22_21 : decode method_4_code 21 = .ok (.if_icmp .le 13, 3) := by decide +kernel
theorem d22_24 : decode method_4_code 24 = .ok (.aload 4, 2) := by decide +kernel
theorem d22_26 : decode method_4_code 26 = .ok (.iconst 1, 1) := by decide +kernel
theorem d22_27 : decode method_4_code 27 = .ok (.aload_n 0, 1) := by decide +kernel
theorem d22_28 : decode method_4_code 28 = .ok (.iconst 1, 1) := by decide +kernel
theorem d22_29 : decode method_4_code 29 = .ok (.iload_n 3, 1) := by decide +kernel
theorem d22_30 : decode method_4_code 30 = .ok (.invokestatic 17, 3) := by decide +kernel
theorem d22_33 : decode method_4_code 33 = .ok (.castore, 1) := by decide +kernel
theorem d22_5 : decode method_4_code 5 = .ok (.iload_n 1, 1) := by decide +kernel
theorem d22_6 : decode method_4_code 6 = .ok (.ifCond .le 13, 3) := by decide +kernel
theorem d22_9 : decode method_4_code 9 = .ok (.aload 4, 2) := by decide +kernel
theorem d22_11 : decode method_4_code 11 = .ok (.iconst 0, 1) := by decide +kernel
theorem d22_12 : decode method_4_code 12 = .ok (.aload_n 0, 1) := by decide +kernel
theorem d22_13 : decode method_4_code 13 = .ok (.iconst 0, 1) := by decide +kernel
theorem d22_14 : decode method_4_code 14 = .ok (.iload_n 3, 1) := by decide +kernel
theorem d22_15 : decode method_4_code 15 = .ok (.invokestatic 17, 3) := by decide +kernel
theorem d22_18 : decode method_4_code 18 = .ok (.castore, 1) := by decide +kernel
theorem pn_java_util_Optional : plainName "java/util/Optional" = true := by first | (simp [plainName, overriddenIn]; done) | decide +kernel
theorem d17_0 : decode jdk_32_method_1_code 0 = .ok (.getstatic 1, 3) := by decide +kernel
theorem d17_3 : decode jdk_32_method_1_code 3 = .ok (.astore_n 0, 1) := by decide +kernel
theorem d17_4 : decode jdk_32_method_1_code 4 = .ok (.aload_n 0, 1) := by decide +kernel
theorem d17_5 : decode jdk_32_method_1_code 5 = .ok (.areturn, 1) := by decide +kernel
theorem pn_java_util_Objects : plainName "java/util/Objects" = true := by first | (simp [plainName, overriddenIn]; done) | decide +kernel
theorem d24_0 : decode jdk_31_method_10_code 0 = .ok (.aload_n 0, 1) := by decide +kernel
theorem d24_1 : decode jdk_31_method_10_code 1 = .ok (.ifnonnull 11, 3) := by decide +kernel
theorem d24_12 : decode jdk_31_method_10_code 12 = .ok (.aload_n 0, 1) := by decide +kernel
theorem d24_13 : decode jdk_31_method_10_code 13 = .ok (.areturn, 1) := by decide +kernel
theorem d25_0 : decode jdk_32_method_2_code 0 = .ok (.aload_n 0, 1) := by decide +kernel
theorem d25_1 : decode jdk_32_method_2_code 1 = .ok (.invokespecial 7, 3) := by decide +kernel
theorem d25_4 : decode jdk_32_method_2_code 4 = .ok (.aload_n 0, 1) := by decide +kernel
theorem d25_5 : decode jdk_32_method_2_code 5 = .ok (.aload_n 1, 1) := by decide +kernel
theorem d25_6 : decode jdk_32_method_2_code 6 = .ok (.putfield 13, 3) := by decide +kernel
theorem d25_9 : decode jdk_32_method_2_code 9 = .ok (.return_, 1) := by decide +kernel
theorem d23_0 : decode jdk_32_method_3_code 0 = .ok (.new 2, 3) := by decide +kernel
theorem d23_3 : decode jdk_32_method_3_code 3 = .ok (.dup, 1) := by decide +kernel
theorem d23_4 : decode jdk_32_method_3_code 4 = .ok (.aload_n 0, 1) := by decide +kernel
theorem d23_5 : decode jdk_32_method_3_code 5 = .ok (.invokestatic 17, 3) := by decide +kernel
theorem pd__Ljava_lang_Object__Ljava_lang_Object_ : parseMethodDescriptor "(Ljava/lang/Object;)Ljava/lang/Object;" = some ⟨[(.object "java/lang/Object")], some (.object "java/lang/Object")⟩ := by decide +kernel
theorem d23_8 : decode jdk_32_method_3_code 8 = .ok (.invokespecial 23, 3) := by decide +kernel
theorem pd__Ljava_lang_Object__V : parseMethodDescriptor "(Ljava/lang/Object;)V" = some ⟨[(.object "java/lang/Object")], none⟩ := by decide +kernel
theorem d23_11 : decode jdk_32_method_3_code 11 = .ok (.areturn, 1) := by decide +kernel
theorem d21_0 : decode jdk_32_method_15_code 0 = .ok (.aload_n 0, 1) := by decide +kernel
theorem d21_1 : decode jdk_32_method_15_code 1 = .ok (.getfield 13, 3) := by decide +kernel
theorem d21_4 : decode jdk_32_method_15_code 4 = .ok (.ifnull 10, 3) := by decide +kernel
theorem d21_14 : decode jdk_32_method_15_code 14 = .ok (.aload_n 1, 1) := by decide +kernel
theorem d21_15 : decode jdk_32_method_15_code 15 = .ok (.areturn, 1) := by decide +kernel
theorem d21_7 : decode jdk_32_method_15_code 7 = .ok (.aload_n 0, 1) := by decide +kernel
theorem d21_8 : decode jdk_32_method_15_code 8 = .ok (.getfield 13, 3) := by decide +kernel
theorem d21_11 : decode jdk_32_method_15_code 11 = .ok (.goto 4, 3) := by decide +kernel
theorem pn_java_lang_String : plainName "java/lang/String" = true := by first | (simp [plainName, overriddenIn]; done) | decide +kernel
theorem d19_0 : decode jdk_42_method_66_code 0 = .ok (.aload_n 0, 1) := by decide +kernel
theorem d19_1 : decode jdk_42_method_66_code 1 = .ok (.aload_n 1, 1) := by decide +kernel
theorem d19_2 : decode jdk_42_method_66_code 2 = .ok (.if_acmp .ne 5, 3) := by decide +kernel
theorem d19_7 : decode jdk_42_method_66_code 7 = .ok (.aload_n 1, 1) := by decide +kernel
theorem d19_8 : decode jdk_42_method_66_code 8 = .ok (.instanceof 10, 3) := by decide +kernel
theorem d19_11 : decode jdk_42_method_66_code 11 = .ok (.ifCond .eq 43, 3) := by decide +kernel
theorem d19_54 : decode jdk_42_method_66_code 54 = .ok (.iconst 0, 1) := by decide +kernel
theorem d19_55 : decode jdk_42_method_66_code 55 = .ok (.ireturn, 1) := by decide +kernel
theorem pn_com_example_llave_llave_policy_Objective : plainName "com/example/llave/llave/policy/Objective" = true := by first | (simp [plainName, overriddenIn]; done) | decide +kernel
theorem d18_0 : decode prog_14_method_1_code 0 = .ok (.getstatic 13, 3) := by decide +kernel
theorem d18_3 : decode prog_14_method_1_code 3 = .ok (.invokevirtual 17, 3) := by decide +kernel
theorem d18_6 : decode prog_14_method_1_code 6 = .ok (.checkcast 18, 3) := by decide +kernel
theorem d18_9 : decode prog_14_method_1_code 9 = .ok (.areturn, 1) := by decide +kernel
theorem d16_0 : decode prog_14_method_4_code 0 = .ok (.invokestatic 36, 3) := by decide +kernel
theorem pd___Ljava_util_Optional_ : parseMethodDescriptor "()Ljava/util/Optional;" = some ⟨[], some (.object "java/util/Optional")⟩ := by decide +kernel
theorem d16_3 : decode prog_14_method_4_code 3 = .ok (.astore_n 1, 1) := by decide +kernel
theorem d16_4 : decode prog_14_method_4_code 4 = .ok (.invokestatic 42, 3) := by decide +kernel
theorem pd____Lcom_example_llave_llave_policy_Objective_ : parseMethodDescriptor "()[Lcom/example/llave/llave/policy/Objective;" = some ⟨[], some (.array (.object "com/example/llave/llave/policy/Objective"))⟩ := by decide +kernel
theorem d16_7 : decode prog_14_method_4_code 7 = .ok (.astore_n 2, 1) := by decide +kernel
theorem d16_8 : decode prog_14_method_4_code 8 = .ok (.aload_n 2, 1) := by decide +kernel
theorem d16_9 : decode prog_14_method_4_code 9 = .ok (.arraylength, 1) := by decide +kernel
theorem d16_10 : decode prog_14_method_4_code 10 = .ok (.istore_n 3, 1) := by decide +kernel
theorem d16_11 : decode prog_14_method_4_code 11 = .ok (.iconst 0, 1) := by decide +kernel
theorem d16_12 : decode prog_14_method_4_code 12 = .ok (.istore 4, 2) := by decide +kernel
theorem d16_14 : decode prog_14_method_4_code 14 = .ok (.iload 4, 2) := by decide +kernel
theorem d16_16 : decode prog_14_method_4_code 16 = .ok (.iload_n 3, 1) := by decide +kernel
theorem d16_17 : decode prog_14_method_4_code 17 = .ok (.if_icmp .ge 33, 3) := by decide +kernel
theorem d16_50 : decode prog_14_method_4_code 50 = .ok (.aload_n 1, 1) := by decide +kernel
theorem d16_51 : decode prog_14_method_4_code 51 = .ok (.areturn, 1) := by decide +kernel
theorem d16_20 : decode prog_14_method_4_code 20 = .ok (.aload_n 2, 1) := by decide +kernel
theorem d16_21 : decode prog_14_method_4_code 21 = .ok (.iload 4, 2) := by decide +kernel
theorem d16_23 : decode prog_14_method_4_code 23 = .ok (.aaload, 1) := by decide +kernel
theorem d16_24 : decode prog_14_method_4_code 24 = .ok (.astore 5, 2) := by decide +kernel
theorem d16_26 : decode prog_14_method_4_code 26 = .ok (.aload 5, 2) := by decide +kernel
theorem d16_28 : decode prog_14_method_4_code 28 = .ok (.getfield 32, 3) := by decide +kernel
theorem d16_31 : decode prog_14_method_4_code 31 = .ok (.aload_n 0, 1) := by decide +kernel
theorem d16_32 : decode prog_14_method_4_code 32 = .ok (.invokevirtual 46, 3) := by decide +kernel
theorem pd__Ljava_lang_Object__Z : parseMethodDescriptor "(Ljava/lang/Object;)Z" = some ⟨[(.object "java/lang/Object")], some .boolean⟩ := by decide +kernel
theorem d16_35 : decode prog_14_method_4_code 35 = .ok (.ifCond .eq 9, 3) := by decide +kernel
theorem d16_44 : decode prog_14_method_4_code 44 = .ok (.iinc 4 1, 3) := by decide +kernel
theorem d16_47 : decode prog_14_method_4_code 47 = .ok (.goto (-33), 3) := by decide +kernel
theorem d16_38 : decode prog_14_method_4_code 38 = .ok (.aload 5, 2) := by decide +kernel
theorem d16_40 : decode prog_14_method_4_code 40 = .ok (.invokestatic 52, 3) := by decide +kernel
theorem pd__Ljava_lang_Object__Ljava_util_Optional_ : parseMethodDescriptor "(Ljava/lang/Object;)Ljava/util/Optional;" = some ⟨[(.object "java/lang/Object")], some (.object "java/util/Optional")⟩ := by decide +kernel
theorem d16_43 : decode prog_14_method_4_code 43 = .ok (.astore_n 1, 1) := by decide +kernel
theorem pd__Ljava_lang_String__Ljava_util_Optional_ : parseMethodDescriptor "(Ljava/lang/String;)Ljava/util/Optional;" = some ⟨[(.object "java/lang/String")], some (.object "java/util/Optional")⟩ := by decide +kernel
theorem pd__Ljava_lang_String_IC_Ljava_lang_String_ : parseMethodDescriptor "(Ljava/lang/String;IC)Ljava/lang/String;" = some ⟨[(.object "java/lang/String"), .int, .char], some (.object "java/lang/String")⟩ := by decide +kernel
theorem pd__Ljava_lang_String_IIC_Ljava_lang_String_ : parseMethodDescriptor "(Ljava/lang/String;IIC)Ljava/lang/String;" = some ⟨[(.object "java/lang/String"), .int, .int, .char], some (.object "java/lang/String")⟩ := by decide +kernel
/-- the three words -/
def own_W : Fin 3 → List Int32
  | 0 => [99, 111, 110, 102, 105, 100, 101, 110, 116, 105, 97, 108, 105, 116, 121]
  | 1 => [105, 110, 116, 101, 103, 114, 105, 116, 121]
  | 2 => [97, 118, 97, 105, 108, 97, 98, 105, 108, 105, 116, 121]
abbrev own_T := Addr × ClassId × (Fin 3 → Addr) × (Fin 3 → Addr) × (Fin 3 → Addr) × (Fin 3 → ClassId) × Addr
/-- what the start says of the enum and of Optional.EMPTY -/
def own_G (Z : State) (T : own_T) : Prop := Sta Z Z.heap "com/example/llave/llave/policy/Objective" "$VALUES" "[Lcom/example/llave/llave/policy/Objective;" (.ref T.1) ∧
  Arv Z Z.heap T.1 T.2.1 (.object "com/example/llave/llave/policy/Objective") (3 : Int32) [.ref (T.2.2.1 0), .ref (T.2.2.1 1), .ref (T.2.2.1 2)] .null ∧ Exa Z Z.heap T.1 "[Lcom/example/llave/llave/policy/Objective;" ∧
  (∀ j : Fin 3, Exa Z Z.heap (T.2.2.1 j) "com/example/llave/llave/policy/Objective" ∧ Fld Z Z.heap (T.2.2.1 j) "com/example/llave/llave/policy/Objective" "word" "Ljava/lang/String;" (.ref (T.2.2.2.1 j)) ∧ Str Z Z.heap (T.2.2.2.1 j) (T.2.2.2.2.1 j) (T.2.2.2.2.2.1 j) (own_W j)) ∧
  Sta Z Z.heap "java/util/Optional" "EMPTY" "Ljava/util/Optional;" (.ref T.2.2.2.2.2.2) ∧ Exa Z Z.heap T.2.2.2.2.2.2 "java/util/Optional" ∧ Fld Z Z.heap T.2.2.2.2.2.2 "java/util/Optional" "value" "Ljava/lang/Object;" .null
def own_S (Z : State) (T : own_T) : Prop := Sta Z Z.heap "com/example/llave/llave/policy/Objective" "CONFIDENTIALITY" "Lcom/example/llave/llave/policy/Objective;" (.ref (T.2.2.1 0)) ∧ Sta Z Z.heap "com/example/llave/llave/policy/Objective" "INTEGRITY" "Lcom/example/llave/llave/policy/Objective;" (.ref (T.2.2.1 1)) ∧ Sta Z Z.heap "com/example/llave/llave/policy/Objective" "AVAILABILITY" "Lcom/example/llave/llave/policy/Objective;" (.ref (T.2.2.1 2))
/-- what is found after j words -/
def own_r1 (o : Fin 3 → Addr) (cs : List Int32) : Value := if own_W 0 = cs then .ref (o 0) else .null
def own_r2 (o : Fin 3 → Addr) (cs : List Int32) : Value := if own_W 1 = cs then .ref (o 1) else own_r1 o cs
def own_res (o : Fin 3 → Addr) (cs : List Int32) : Value := if own_W 2 = cs then .ref (o 2) else own_r2 o cs
def own_rs (o : Fin 3 → Addr) (cs : List Int32) : Nat → Value
  | 0 => .null
  | 1 => own_r1 o cs
  | 2 => own_r2 o cs
  | _ => own_res o cs
theorem own_n0 {o : Fin 3 → Addr} {cs : List Int32} (h : ¬ own_W 0 = cs) : own_rs o cs 1 = own_rs o cs 0 := if_neg h
theorem own_n1 {o : Fin 3 → Addr} {cs : List Int32} (h : ¬ own_W 1 = cs) : own_rs o cs 2 = own_rs o cs 1 := if_neg h
theorem own_n2 {o : Fin 3 → Addr} {cs : List Int32} (h : ¬ own_W 2 = cs) : own_rs o cs 3 = own_rs o cs 2 := if_neg h
theorem own_p0 {o : Fin 3 → Addr} {cs : List Int32} (h : own_W 0 = cs) : own_rs o cs 1 = .ref (o 0) := if_pos h
theorem own_p1 {o : Fin 3 → Addr} {cs : List Int32} (h : own_W 1 = cs) : own_rs o cs 2 = .ref (o 1) := if_pos h
theorem own_p2 {o : Fin 3 → Addr} {cs : List Int32} (h : own_W 2 = cs) : own_rs o cs 3 = .ref (o 2) := if_pos h
theorem own_ite0 {P : Prop} [Decidable P] (h : (if P then (1 : Int32) else 0) = 0) : ¬ P := fun q => by rw [if_pos q] at h; exact absurd h (by decide)
theorem own_ite1 {P : Prop} [Decidable P] (h : ¬ (if P then (1 : Int32) else 0) = 0) : P := Decidable.byContradiction fun q => h (if_neg q)
def own_at (ws : List Int32) (c : Int32) (i : Nat) : Int32 := if i < ws.length then ws.getD i 0 else c
def own_fill (ws : List Int32) (c : Int32) (N i : Nat) : List Int32 := (List.range N).map fun j => if j < i then own_at ws c j else 0
theorem own_len (ws : List Int32) (c : Int32) (N i : Nat) : (own_fill ws c N i).length = N := by simp [own_fill]
theorem own_skip {ws : List Int32} {c : Int32} {N i j : Nat} (e : j = i + 1) (h : N ≤ i) : own_fill ws c N j = own_fill ws c N i := by
  subst e
  refine List.map_congr_left fun k hk => ?_
  have := List.mem_range.mp hk
  rw [if_pos (by omega), if_pos (by omega)]
theorem own_set {ws : List Int32} {c : Int32} {N i j : Nat} (e : j = i + 1) (h : i < N) : ((own_fill ws c N i).map Value.int).set i (.int (own_at ws c i)) = (own_fill ws c N j).map Value.int := by
  subst e
  rw [← List.map_set]; congr 1
  refine List.ext_getElem (by simp [own_fill]) fun k h1 h2 => ?_
  have hk : k < N := by simpa [own_fill] using h2
  rw [List.getElem_set]
  by_cases q : i = k
  · subst q; simp [own_fill]
  · simp only [if_neg q, own_fill, List.getElem_map, List.getElem_range]
    by_cases r : k < i
    · rw [if_pos r, if_pos (by omega)]
    · rw [if_neg r, if_neg (by omega)]
theorem own_rep (n i : Nat) (v : Value) : (List.replicate n v).getD i v = v := by
  rw [List.getD_eq_getElem?_getD, List.getElem?_replicate]; split <;> rfl
theorem own_pad0 (ws : List Int32) (c : Int32) (N : Nat) : ∀ i, ((own_fill ws c N 0).map Value.int).getD i (.int 0) = (List.replicate 16 (Value.int 0)).getD i (.int 0) := fun i => by
  have e : (own_fill ws c N 0).map Value.int = List.replicate N (Value.int 0) := by
    refine List.ext_getElem (by simp [own_fill]) fun k h1 h2 => ?_
    simp [own_fill]
  rw [e, own_rep, own_rep]
theorem own_nat (x : Int32) : ∃ k : Nat, k < 256 ∧ x &&& 255 = Int32.ofNat k := by
  have h : (x &&& 255).toBitVec.toNat < 256 := by
    simp only [Int32.toBitVec_and, BitVec.toNat_and]
    exact Nat.lt_succ_of_le Nat.and_le_right
  refine ⟨_, h, ?_⟩
  apply Int32.toBitVec_inj.mp
  show _ = BitVec.ofNat 32 _
  rw [BitVec.ofNat_toNat]; simp
theorem own_255 (x : Int32) : ¬ x &&& 255 < 0 ∧ ¬ (255 : Int32) < x &&& 255 := by
  obtain ⟨k, hk, e⟩ := own_nat x
  rw [e]; exact (by decide +kernel : ∀ k, k < 256 → ¬ Int32.ofNat k < 0 ∧ ¬ (255 : Int32) < Int32.ofNat k) k hk
theorem own_nc (x : Int32) : nar .char (x &&& 255) = x &&& 255 := i2c_mask x
theorem own_nr {x : Int32} (h : ¬ x < 0 ∧ ¬ (255 : Int32) < x) : nar .char x = x := by
  have e : x = Int32.ofNat x.toInt.toNat := by
    rw [Int32.lt_iff_toInt_lt, Int32.lt_iff_toInt_lt] at h
    have e1 : (0 : Int32).toInt = 0 := rfl
    have e2 : (255 : Int32).toInt = 255 := rfl
    apply Int32.toInt_inj.mp
    rw [Int32.toInt_ofNat_of_lt (by omega)]; omega
  have hk : x.toInt.toNat < 256 := by
    rw [Int32.lt_iff_toInt_lt, Int32.lt_iff_toInt_lt] at h
    have e1 : (0 : Int32).toInt = 0 := rfl
    have e2 : (255 : Int32).toInt = 255 := rfl
    omega
  rw [e]; generalize x.toInt.toNat = k at hk
  exact (by decide +kernel : ∀ k, k < 256 → nar .char (Int32.ofNat k) = Int32.ofNat k) k hk
theorem own_in {ws : List Int32} {i : Nat} (h : ∀ c ∈ ws, ¬ c < 0 ∧ ¬ (255 : Int32) < c) (hi : i < ws.length) : ¬ ws.getD i 0 < 0 ∧ ¬ (255 : Int32) < ws.getD i 0 := by
  have e : ws.getD i 0 = ws[i] := by rw [List.getD_eq_getElem?_getD, List.getElem?_eq_getElem hi]; rfl
  rw [e]; exact h _ (List.getElem_mem hi)
theorem own_atr {ws : List Int32} (h : ∀ c ∈ ws, ¬ c < 0 ∧ ¬ (255 : Int32) < c) (y : Int32) (i : Nat) : ¬ own_at ws (y &&& 255) i < 0 ∧ ¬ (255 : Int32) < own_at ws (y &&& 255) i := by
  unfold own_at
  by_cases q : i < ws.length
  · rw [if_pos q]; exact own_in h q
  · rw [if_neg q]; exact own_255 y
theorem own_rng (ws : List Int32) (y : Int32) (N i : Nat) (h : ∀ c ∈ ws, ¬ c < 0 ∧ ¬ (255 : Int32) < c) : ∀ c ∈ own_fill ws (y &&& 255) N i, ¬ c < 0 ∧ ¬ (255 : Int32) < c := fun c hc => by
  obtain ⟨j, -, rfl⟩ := List.mem_map.mp hc
  try dsimp only
  by_cases q : j < i
  · rw [if_pos q]; exact own_atr h y j
  · rw [if_neg q]; decide
theorem own_rset {l : List Int32} (P : Nat) (y : Int32) (h : ∀ c ∈ l, ¬ c < 0 ∧ ¬ (255 : Int32) < c) : ∀ c ∈ l.set P (y &&& 255), ¬ c < 0 ∧ ¬ (255 : Int32) < c := fun c hc => by
  rcases List.mem_or_eq_of_mem_set hc with q | q
  · exact h c q
  · rw [q]; exact own_255 y
theorem own_ltNN (i : Nat) (hi : i < 16) (n : Nat) (hn : n < 17) : Int32.ofNat i < Int32.ofNat n ↔ i < n := by
  rw [Int32.lt_iff_toInt_lt, Int32.toInt_ofNat_of_lt (by omega), Int32.toInt_ofNat_of_lt (by omega)]; omega
theorem own_pos : ∀ N, N < 17 → ¬ Int32.ofNat N < 0 := by decide
theorem own_clamp : ∀ N, N < 17 → (Int32.ofNat N).toNatClampNeg = N := by decide
theorem own_lt0 : ∀ N, N < 17 → ((0 : Int32) < Int32.ofNat N ↔ 0 < N) := by decide
theorem own_lt1 : ∀ N, N < 17 → ((1 : Int32) < Int32.ofNat N ↔ 1 < N) := by decide
theorem own_lt2 : ∀ N, N < 17 → ((2 : Int32) < Int32.ofNat N ↔ 2 < N) := by decide
theorem own_lt3 : ∀ N, N < 17 → ((3 : Int32) < Int32.ofNat N ↔ 3 < N) := by decide
theorem own_lt4 : ∀ N, N < 17 → ((4 : Int32) < Int32.ofNat N ↔ 4 < N) := by decide
theorem own_lt5 : ∀ N, N < 17 → ((5 : Int32) < Int32.ofNat N ↔ 5 < N) := by decide
theorem own_lt6 : ∀ N, N < 17 → ((6 : Int32) < Int32.ofNat N ↔ 6 < N) := by decide
theorem own_lt7 : ∀ N, N < 17 → ((7 : Int32) < Int32.ofNat N ↔ 7 < N) := by decide
theorem own_lt8 : ∀ N, N < 17 → ((8 : Int32) < Int32.ofNat N ↔ 8 < N) := by decide
theorem own_lt9 : ∀ N, N < 17 → ((9 : Int32) < Int32.ofNat N ↔ 9 < N) := by decide
theorem own_lt10 : ∀ N, N < 17 → ((10 : Int32) < Int32.ofNat N ↔ 10 < N) := by decide
theorem own_lt11 : ∀ N, N < 17 → ((11 : Int32) < Int32.ofNat N ↔ 11 < N) := by decide
theorem own_lt12 : ∀ N, N < 17 → ((12 : Int32) < Int32.ofNat N ↔ 12 < N) := by decide
theorem own_lt13 : ∀ N, N < 17 → ((13 : Int32) < Int32.ofNat N ↔ 13 < N) := by decide
theorem own_lt14 : ∀ N, N < 17 → ((14 : Int32) < Int32.ofNat N ↔ 14 < N) := by decide
theorem own_lt15 : ∀ N, N < 17 → ((15 : Int32) < Int32.ofNat N ↔ 15 < N) := by decide
theorem own_remI (x : Int32) (N : Nat) (h0 : 0 < N) (h1 : N < 17) : ∃ P : Nat, P < N ∧ (x &&& 2147483647) % Int32.ofNat N = Int32.ofNat P := by
  have h : (x &&& 2147483647).toBitVec.toNat < 2147483648 := by
    simp only [Int32.toBitVec_and, BitVec.toNat_and]
    exact Nat.lt_succ_of_le Nat.and_le_right
  have e0 : 0 ≤ (x &&& 2147483647).toInt := by
    show 0 ≤ (x &&& 2147483647).toBitVec.toInt
    rw [BitVec.toInt_eq_toNat_of_lt (by omega)]; exact Int.natCast_nonneg _
  have eN : (Int32.ofNat N).toInt = N := Int32.toInt_ofNat_of_lt (by omega)
  have e1 : ((x &&& 2147483647) % Int32.ofNat N).toInt = (x &&& 2147483647).toInt.tmod N := by rw [Int32.toInt_mod, eN]
  have a1 := Int.tmod_nonneg (N : Int) e0
  have a2 := Int.tmod_lt_of_pos (x &&& 2147483647).toInt (show (0 : Int) < N by omega)
  refine ⟨((x &&& 2147483647) % Int32.ofNat N).toInt.toNat, by omega, ?_⟩
  apply Int32.toInt_inj.mp
  rw [Int32.toInt_ofNat_of_lt (by rw [e1]; omega), e1]; omega
theorem own_rem (N : Nat) (h0 : 0 < N) (h1 : N < 17) (x m : Int32) (e : m = Int32.ofNat N) : ∃ P : Nat, P < N ∧ (x &&& 2147483647) % m = Int32.ofNat P := e ▸ own_remI x N h0 h1
theorem own_rem3 (x : Int32) : (x &&& 2147483647) % 3 = 0 ∨ (x &&& 2147483647) % 3 = 1 ∨ (x &&& 2147483647) % 3 = 2 := by
  obtain ⟨P, hP, e⟩ := own_rem 3 (by decide) (by decide) x 3 rfl
  rw [e]
  exact (by decide : ∀ P, P < 3 → Int32.ofNat P = 0 ∨ Int32.ofNat P = 1 ∨ Int32.ofNat P = 2) P hP
theorem own_none (o : Fin 3 → Addr) (cs : List Int32) (h : cs.length ≠ 15 ∧ cs.length ≠ 9 ∧ cs.length ≠ 12) : own_res o cs = .null := by
  unfold own_res own_r2 own_r1
  rw [if_neg (fun q => h.2.2 (by rw [← q]; rfl)), if_neg (fun q => h.2.1 (by rw [← q]; rfl)), if_neg (fun q => h.1 (by rw [← q]; rfl))]
theorem own_full0 (c : Int32) : own_fill (own_W 0) c 15 16 = own_W 0 := rfl
theorem own_full1 (c : Int32) : own_fill (own_W 1) c 9 16 = own_W 1 := rfl
theorem own_full2 (c : Int32) : own_fill (own_W 2) c 12 16 = own_W 2 := rfl
theorem own_is0 (o : Fin 3 → Addr) : own_res o (own_W 0) = .ref (o 0) := rfl
theorem own_is1 (o : Fin 3 → Addr) : own_res o (own_W 1) = .ref (o 1) := rfl
theorem own_is2 (o : Fin 3 → Addr) : own_res o (own_W 2) = .ref (o 2) := rfl
theorem own_same0 (o : Fin 3 → Addr) (c : Int32) : own_res o (own_fill (own_W 0) c 15 16) = .ref (o 0) := by rw [own_full0]; rfl
theorem own_same1 (o : Fin 3 → Addr) (c : Int32) : own_res o (own_fill (own_W 1) c 9 16) = .ref (o 1) := by rw [own_full1]; rfl
theorem own_same2 (o : Fin 3 → Addr) (c : Int32) : own_res o (own_fill (own_W 2) c 12 16) = .ref (o 2) := by rw [own_full2]; rfl
theorem own_gd {ws : List Int32} {P : Nat} (hP : P < ws.length) : ws.getD P 0 = ws[P] := by rw [List.getD_eq_getElem?_getD, List.getElem?_eq_getElem hP]; rfl
theorem own_hitg {ws : List Int32} {P : Nat} {c : Int32} (hP : P < ws.length) (hm : c = ws.getD P 0) : ws.set P c = ws := by
  rw [hm, own_gd hP]; exact List.set_getElem_self hP
theorem own_missg {ws : List Int32} {P : Nat} {c : Int32} (hP : P < ws.length) (hm : ¬ c = ws.getD P 0) : ¬ ws = ws.set P c := fun q => hm (by
  have e := congrArg (fun l => l.getD P 0) q
  try dsimp only at e
  rw [e, own_gd (by simpa using hP), List.getElem_set_self])
theorem own_hit0 (o : Fin 3 → Addr) {P : Nat} {c : Int32} (hP : P < 15) (hm : c = (own_W 0).getD P 0) : own_res o ((own_fill (own_W 0) c 15 16).set P c) = .ref (o 0) := by rw [own_full0, own_hitg hP hm]; rfl
theorem own_hit1 (o : Fin 3 → Addr) {P : Nat} {c : Int32} (hP : P < 9) (hm : c = (own_W 1).getD P 0) : own_res o ((own_fill (own_W 1) c 9 16).set P c) = .ref (o 1) := by rw [own_full1, own_hitg hP hm]; rfl
theorem own_hit2 (o : Fin 3 → Addr) {P : Nat} {c : Int32} (hP : P < 12) (hm : c = (own_W 2).getD P 0) : own_res o ((own_fill (own_W 2) c 12 16).set P c) = .ref (o 2) := by rw [own_full2, own_hitg hP hm]; rfl
theorem own_lne {a b : List Int32} {P : Nat} {c : Int32} (h : a.length ≠ b.length) : ¬ a = b.set P c := fun q => h (by rw [q, List.length_set])
theorem own_miss0 (o : Fin 3 → Addr) {P : Nat} {c : Int32} (hP : P < 15) (hm : ¬ c = (own_W 0).getD P 0) : own_res o ((own_fill (own_W 0) c 15 16).set P c) = .null := by
  rw [own_full0]; unfold own_res own_r2 own_r1; rw [if_neg (own_lne (by decide)), if_neg (own_lne (by decide)), if_neg (own_missg hP hm)]
theorem own_miss1 (o : Fin 3 → Addr) {P : Nat} {c : Int32} (hP : P < 9) (hm : ¬ c = (own_W 1).getD P 0) : own_res o ((own_fill (own_W 1) c 9 16).set P c) = .null := by
  rw [own_full1]; unfold own_res own_r2 own_r1; rw [if_neg (own_lne (by decide)), if_neg (own_missg hP hm), if_neg (own_lne (by decide))]
theorem own_miss2 (o : Fin 3 → Addr) {P : Nat} {c : Int32} (hP : P < 12) (hm : ¬ c = (own_W 2).getD P 0) : own_res o ((own_fill (own_W 2) c 12 16).set P c) = .null := by
  rw [own_full2]; unfold own_res own_r2 own_r1; rw [if_neg (own_missg hP hm), if_neg (own_lne (by decide)), if_neg (own_lne (by decide))]
theorem own_ew {Z : State} {a0 : Array Value} (hw : ∀ d ∈ tables_1, d.before a0 Z = true) : EW Z a0 consts_1 := EW.cons (hw _ (List.mem_of_getElem? (i := 126) rfl)) (by decide) (EW.cons (hw _ (List.mem_of_getElem? (i := 0) rfl)) (by decide) (EW.cons (hw _ (List.mem_of_getElem? (i := 124) rfl)) (by decide) (EW.cons (hw _ (List.mem_of_getElem? (i := 119) rfl)) (by decide) EW.nil)))
theorem own_sat {Z : State} {a0 : Array Value} (hw : ∀ d ∈ tables_1, d.before a0 Z = true) : ∀ a ∈ Bundle.stringAtoms, a.before a0 Z = true := fun d hd => hw d ((by decide +kernel : ∀ d ∈ Bundle.stringAtoms, d ∈ tables_1) d hd)
/-- what a start's words say of an array and of a String -/
theorem own_arr {Z : State} {args : Array Value} {t : Term} {a : Addr} {ty : FieldType} {n : Int32} (ev : t.eval args Z none [] Z = some (.ref a)) (hx : (Cond.arrayOf t ty).value args Z none Z [] = some true) (hl : (Cond.eq (.length t) (.int n)).value args Z none Z [] = some true) :
    ∃ c, Arr Z Z.heap a c ty ∧ Z.arrayAt? a = some c ∧ c.slots.size < 2 ^ 31 ∧ c.slots.size.toInt32 = n := by
  obtain ⟨c, A⟩ := Arr.start ev hx
  have hA : Z.arrayAt? a = some c := Arr.fin (Vm.Alike.refl _) A
  have e := eqv_i (Term.int_eval n) hl
  obtain ⟨b, cell, e1, e2, e3, e4⟩ := Jvm.Lib.length_spec e
  obtain rfl : a = b := Value.ref.inj (Option.some.inj (ev.symm.trans e1))
  obtain rfl : c = cell := Option.some.inj (hA.symm.trans e2)
  exact ⟨c, A, hA, e3, (Value.int.inj e4).symm⟩
theorem own_eli {Z : State} {args : Array Value} {t : Term} {a : Addr} {c : Cell} (ev : t.eval args Z none [] Z = some (.ref a)) (hA : Z.arrayAt? a = some c) (j : Int32) (hj : ¬ j < 0) {v : Int32} (h : (Cond.eq (.elem t (.int j)) (.int v)).value args Z none Z [] = some true) : c.slots[j.toNatClampNeg]? = some (.int v) := by
  rw [← elem_f (idx := []) (first := Z) (o := none) ev (Term.int_eval j) hA hj]; exact eqv_i (Term.int_eval v) h
theorem own_elr {Z : State} {args : Array Value} {t u : Term} {a b : Addr} {c : Cell} (ev : t.eval args Z none [] Z = some (.ref a)) (hA : Z.arrayAt? a = some c) (j : Int32) (hj : ¬ j < 0) (eu : u.eval args Z none [] Z = some (.ref b)) (h : (Cond.eq (.elem t (.int j)) u).value args Z none Z [] = some true) : c.slots[j.toNatClampNeg]? = some (.ref b) := by
  rw [← elem_f (idx := []) (first := Z) (o := none) ev (Term.int_eval j) hA hj]; exact Cond.eq_refs (beq_iff_eq.mpr h : (Cond.eq (.elem t (.int j)) u).holds args Z none Z [] = true) eu rfl
theorem own_str {Z : State} {args : Array Value} {t : Term} {w : Addr} {cs : List Int32} {n : Int32} (hfit : Fit Z) (ev : t.eval args Z none [] Z = some (.ref w)) (hx : (Cond.exactly t "java/lang/String").value args Z none Z [] = some true)
    (hc : (Cond.eq (.field t "java/lang/String" "coder" "B") (.int 0)).value args Z none Z [] = some true) (ha : (Cond.arrayOf (.field t "java/lang/String" "value" "[B") .byte).value args Z none Z [] = some true)
    (hl : (Cond.eq (.length (.field t "java/lang/String" "value" "[B")) (.int n)).value args Z none Z [] = some true) (hn : n = Int32.ofNat cs.length) (h0 : ¬ n < 0) (h1 : n.toNatClampNeg = ((cs.map fun c => c.toInt8.toInt32).map Value.int).length)
    (H : ∀ a c, (Term.field t "java/lang/String" "value" "[B").eval args Z none [] Z = some (.ref a) → Z.arrayAt? a = some c → HasL c 0 ((cs.map fun c => c.toInt8.toInt32).map Value.int)) (hr : ∀ c ∈ cs, ¬ c < 0 ∧ ¬ (255 : Int32) < c) (h2 : cs.length ≤ 4000) :
    ∃ b kb, Str Z Z.heap w b kb cs := by
  subst hn
  obtain ⟨b, eb⟩ := arr_v ha
  obtain ⟨c, A, hA, q, e⟩ := own_arr eb ha hl
  refine ⟨b, c.cls, Exa.start ev hx, Fld.start ((fld_at ev).symm.trans (eqv_i (Term.int_eval 0) hc)), Fld.start ((fld_at ev).symm.trans eb), Arv.start hfit A q e h0 h1 (H b c eb hA), hr, h2⟩
set_option maxRecDepth 65536 in
set_option maxHeartbeats 40000000 in
theorem rm_at (l : Launch) (Z : State) (a0 : Array Value) (hw : ∀ d ∈ tables_1, d.before a0 Z = true) (wa wt : Addr) (wk : ClassId) (ws : List Int32) (i : Nat) (y z : Int32) (fm : Value) (h0 : Heap) (n0 : Nat) (S : Str Z h0 wa wt wk ws) (hi : i < 16) (hl : ws.length ≤ 16) (St : Sta Z Z.heap "java/lang/String" "COMPACT_STRINGS" "Z" (.int z)) (hz : ¬ z = 0) (Fm : Sta Z Z.heap "jdk/internal/util/Preconditions" "SIOOBE_FORMATTER" "Ljava/util/function/BiFunction;" fm) (rf : fm.isRef = true) (O0 : Old Z n0 h0) :
    Ct l Z (⟨"com/example/llave/llave/policy/ObjectiveOfPinLaw", "at", "(Ljava/lang/String;IC)C"⟩ : MethodName) method_2_code 3 (some .char) [] ({ frames := 4, cells := 0, slots := 0, locals := 53 } : Room) #[.ref wa, .int (Int32.ofNat i), .int (y &&& 255)] h0 n0 (fun v h => v = some (.int (own_at ws (y &&& 255) i)) ∧ h0 = h) := by
  refine Ct.of (L0 := #[.val (.ref wa), .val (.int (Int32.ofNat i)), .val (.int (y &&& 255))]) (plainFor_of_name pn_com_example_llave_llave_policy_ObjectiveOfPinLaw) (fun m => by first | (simp [entryFrame, mkF, argsToLocals, Value.category]; done) | rfl) ?_
  intro p e s m below meth c C hnm
  refine Go.iloadN C d4_0 rfl (pc' := 1) rfl ?_
  refine Go.aloadN C d4_1 rfl rfl (pc' := 2) rfl ?_
  refine Go.callV C d4_2 (hw _ (List.mem_of_getElem? (i := 12) rfl)) (hw _ (List.mem_of_getElem? (i := 13) rfl)) (hw _ (List.mem_of_getElem? (i := 15) rfl)) (hw _ (List.mem_of_getElem? (i := 14) rfl)) (fun st hZ => notFace_of_selects (args := #[]) (mvT hZ (hw _ (List.mem_of_getElem? (i := 15) rfl)))) (by decide) S.1 (argsL := []) (rest := [(.int (Int32.ofNat i))]) rfl (lenOf pd___I rfl) rfl (W := 1) (Nat.le_of_ble_eq_true rfl) (own_lenP hw S (St.ext O0.2) hz (by decide) (by decide)) (fun _ _ _ q => q.2) (by decide) (by decide) (fun _ _ _ _ _ q => q) (pc' := 5) rfl ?_
  rintro _ _ L1 ⟨⟨rfl, rfl⟩, -⟩
  show Go p l e _ s m _ below meth c Z _ n0 _ _ _ _ _ 5 #[.val (.ref wa), .val (.int (Int32.ofNat i)), .val (.int (y &&& 255))] [(.int (Int32.ofNat ws.length)), (.int (Int32.ofNat i))]
  refine Go.icmp_ge C d4_5 (by decide) (pc1 := 16) (by decide) (pc2 := 8) rfl (fun hc => ?_) (fun hc => ?_)
  · refine Go.iloadN C d4_16 rfl (pc' := 17) rfl ?_
    refine Go.retN C (by simp) d4_17 (by decide) (by decide) ?_
    have hn : ¬ i < ws.length := fun q => hc ((own_ltNN i hi ws.length (Nat.lt_succ_of_le hl)).mpr q)
    exact ⟨by rw [own_at, if_neg hn, own_nc], rfl⟩
  · have hn : i < ws.length := (own_ltNN i hi ws.length (Nat.lt_succ_of_le hl)).mp hc
    refine Go.aloadN C d4_8 rfl rfl (pc' := 9) rfl ?_
    refine Go.iloadN C d4_9 rfl (pc' := 10) rfl ?_
    refine Go.callV C d4_10 (hw _ (List.mem_of_getElem? (i := 33) rfl)) (hw _ (List.mem_of_getElem? (i := 34) rfl)) (hw _ (List.mem_of_getElem? (i := 36) rfl)) (hw _ (List.mem_of_getElem? (i := 35) rfl)) (fun st hZ => notFace_of_selects (args := #[]) (mvT hZ (hw _ (List.mem_of_getElem? (i := 36) rfl)))) (by decide) S.1 (argsL := [(.int (Int32.ofNat i))]) (rest := []) rfl (lenOf pd__I_C rfl) rfl (W := 0) (Nat.le_of_ble_eq_true rfl) (own_chP hw S (St.ext O0.2) hz (Fm.ext O0.2) rf hn rfl (by decide) (by decide)) (fun _ _ _ q => q.2) (by decide) (by decide) (fun _ _ _ _ _ q => q) (pc' := 13) rfl ?_
    rintro _ _ L2 ⟨⟨rfl, rfl⟩, -⟩
    show Go p l e _ s m _ below meth c Z _ n0 _ _ _ _ _ 13 #[.val (.ref wa), .val (.int (Int32.ofNat i)), .val (.int (y &&& 255))] [(.int (ws.getD i 0))]
    refine Go.goto C d4_13 (by decide) (pc' := 17) (by decide) ?_
    refine Go.retN C (by simp) d4_17 (by decide) (by decide) ?_
    exact ⟨by rw [own_at, if_pos hn, own_nr (own_in S.2.2.2.2.1 hn)], rfl⟩
set_option maxRecDepth 65536 in
set_option maxHeartbeats 40000000 in
theorem rm_make (l : Launch) (Z : State) (a0 : Array Value) (hw : ∀ d ∈ tables_1, d.before a0 Z = true) (wa wt : Addr) (wk : ClassId) (ws : List Int32) (N : Nat) (y z : Int32) (fm : Value) (h0 : Heap) (n0 : Nat) (Z0 : n0 ≤ h0.size) (S : Str Z h0 wa wt wk ws) (hN0 : 0 < N) (hN : N < 17) (hl : ws.length ≤ 16) (St : Sta Z Z.heap "java/lang/String" "COMPACT_STRINGS" "Z" (.int z)) (hz : ¬ z = 0) (Fm : Sta Z Z.heap "jdk/internal/util/Preconditions" "SIOOBE_FORMATTER" "Ljava/util/function/BiFunction;" fm) (rf : fm.isRef = true) (O0 : Old Z n0 h0) :
    Ct l Z (⟨"com/example/llave/llave/policy/ObjectiveOfPinLaw", "make", "(Ljava/lang/String;IC)Ljava/lang/String;"⟩ : MethodName) method_3_code 4 (some (.object "java/lang/String")) [] ({ frames := 5, cells := 3, slots := 36, locals := 69 } : Room) #[.ref wa, .int (Int32.ofNat N), .int (y &&& 255)] h0 n0 (fun v h => ∃ a t kb, v = some (.ref a) ∧ Keep h0 h [] ∧ Str Z h a t kb (own_fill ws (y &&& 255) N 16)) := by
  refine Ct.of (L0 := #[.val (.ref wa), .val (.int (Int32.ofNat N)), .val (.int (y &&& 255)), .unset]) (plainFor_of_name pn_com_example_llave_llave_policy_ObjectiveOfPinLaw) (fun m => by first | (simp [entryFrame, mkF, argsToLocals, Value.category]; done) | rfl) ?_
  intro p e s m below meth c C hnm
  refine Go.iloadN C d3_0 rfl (pc' := 1) rfl ?_
  refine Go.newPV C bnE d3_1 (hw _ (List.mem_of_getElem? (i := 29) rfl)) (own_pos N hN) (cap := 16) (by rw [own_clamp N hN]; omega) (by decide) (by decide) (by decide) (pc' := 3) rfl (dv := .int 0) rfl ?_
  intro h1 kC E1 V1
  obtain ⟨ca, e_ca⟩ : ∃ a, a = h0.size := ⟨_, rfl⟩
  rw [← e_ca] at V1 ⊢
  have nca : n0 ≤ ca := e_ca ▸ Z0
  show Go p l e ({ frames := 5, cells := 3, slots := 36, locals := 69 } : Room) s m #[.ref wa, .int (Int32.ofNat N), .int (y &&& 255)] below meth c Z "com/example/llave/llave/policy/ObjectiveOfPinLaw" n0 (Bn s) (EnN s ({ frames := 5, cells := 3, slots := 36, locals := 69 } : Room) n0 (fun v h => ∃ a t kb, v = some (.ref a) ∧ Keep h0 h [] ∧ Str Z h a t kb (own_fill ws (y &&& 255) N 16))) _ _ _ 3 #[.val (.ref wa), .val (.int (Int32.ofNat N)), .val (.int (y &&& 255)), .unset] [(.ref ca)]
  have V1 : Arv Z h1 ca kC .char (Int32.ofNat N) ((own_fill ws (y &&& 255) N 0).map Value.int) (.int 0) := V1.pad (own_pad0 ws _ N)
  have O1 := O0.ext E1
  have S1 := S.ext E1
  have wn : wa ∉ [ca] := ninS (Nat.ne_of_lt (e_ca ▸ S.1.lt)) nin0
  have tn : wt ∉ [ca] := ninS (Nat.ne_of_lt (e_ca ▸ S.2.2.2.1.lt)) nin0
  refine Go.astoreN C d3_3 rfl (L' := #[.val (.ref wa), .val (.int (Int32.ofNat N)), .val (.int (y &&& 255)), .val (.ref ca)]) rfl (pc' := 4) rfl ?_
  have K16 : ∀ h, Keep h1 h [ca] → Arv Z h ca kC .char (Int32.ofNat N) ((own_fill ws (y &&& 255) N 16).map Value.int) (.int 0) → Go p l e ({ frames := 5, cells := 3, slots := 36, locals := 69 } : Room) s m #[.ref wa, .int (Int32.ofNat N), .int (y &&& 255)] below meth c Z "com/example/llave/llave/policy/ObjectiveOfPinLaw" n0 (Bn s) (EnN s ({ frames := 5, cells := 3, slots := 36, locals := 69 } : Room) n0 (fun v h => ∃ a t kb, v = some (.ref a) ∧ Keep h0 h [] ∧ Str Z h a t kb (own_fill ws (y &&& 255) N 16))) h 1 16 257 #[.val (.ref wa), .val (.int (Int32.ofNat N)), .val (.int (y &&& 255)), .val (.ref ca)] [] := by
    intro h2 K2 V2
    have O2 := O1.keep K2 (allS nca all0)
    have Z2 : n0 ≤ h2.size := Nat.le_trans Z0 (Nat.le_trans E1.1 K2.1)
    have hcs := own_rng ws y N 16 S.2.2.2.2.1
    have hlen : (own_fill ws (y &&& 255) N 16).length = N := own_len ..  
    refine Go.newO C bnE d3_257 (hw _ (List.mem_of_getElem? (i := 55) rfl)) (hw _ (List.mem_of_getElem? (i := 2) rfl)) (hw _ (List.mem_of_getElem? (i := 1) rfl)) (by decide) (by decide) (pc' := 260) rfl ?_
    intro h5 E5 A5 D5 U5
    obtain ⟨sa, e_sa⟩ : ∃ a, a = h2.size := ⟨_, rfl⟩
    rw [← e_sa] at A5 D5 U5 ⊢
    show Go p l e ({ frames := 5, cells := 3, slots := 36, locals := 69 } : Room) s m #[.ref wa, .int (Int32.ofNat N), .int (y &&& 255)] below meth c Z "com/example/llave/llave/policy/ObjectiveOfPinLaw" n0 (Bn s) (EnN s ({ frames := 5, cells := 3, slots := 36, locals := 69 } : Room) n0 (fun v h => ∃ a t kb, v = some (.ref a) ∧ Keep h0 h [] ∧ Str Z h a t kb (own_fill ws (y &&& 255) N 16))) _ _ _ 260 #[.val (.ref wa), .val (.int (Int32.ofNat N)), .val (.int (y &&& 255)), .val (.ref ca)] [(.ref sa)]
    have nsa : n0 ≤ sa := e_sa ▸ Z2
    have Z5 : n0 ≤ h5.size := Nat.le_trans Z2 E5.1
    have O5 := O2.ext E5
    have V5 := V2.ext E5
    have Fc5 := D5 (Or.inr (hw _ (List.mem_of_getElem? (i := 5) rfl))) (ty := .byte) (by decide)
    have Fv5 := D5 (Or.inr (hw _ (List.mem_of_getElem? (i := 4) rfl))) (ty := (.array .byte)) (by decide)
    refine Go.dup C d3_260 rfl (pc' := 261) rfl ?_
    refine Go.aloadN C d3_261 rfl rfl (pc' := 262) rfl ?_
    have V5' : Arv Z h5 ca kC .char (Int32.ofNat (own_fill ws (y &&& 255) N 16).length) ((own_fill ws (y &&& 255) N 16).map Value.int) (.int 0) := by rw [hlen]; exact V5
    refine Go.callN C d3_262 rfl (hw _ (List.mem_of_getElem? (i := 56) rfl)) (hw _ (List.mem_of_getElem? (i := 57) rfl)) (hw _ (List.mem_of_getElem? (i := 58) rfl)) (by decide) (argsL := [(.ref ca)]) (rest := [(.ref sa)]) rfl (lenOf pd___C_V rfl) rfl (W := 1) (Nat.le_of_ble_eq_true rfl) (own_newP hw nsa Z5 A5 Fv5 Fc5 V5' (St.ext O5.2) hz (by rw [hlen]; exact hN0) (by rw [hlen]; omega) hcs (by decide) (by decide)) (fun _ _ _ q => q.2) (by decide) (by rw [hlen]; show 20 + N ≤ 36; omega) (fun _ _ _ _ _ q => q) (pc' := 265) rfl ?_
    rintro _ h6 L6 ⟨⟨rfl, K6, t6, kb6, -, S6⟩, -⟩
    show Go p l e ({ frames := 5, cells := 3, slots := 36, locals := 69 } : Room) s m #[.ref wa, .int (Int32.ofNat N), .int (y &&& 255)] below meth c Z "com/example/llave/llave/policy/ObjectiveOfPinLaw" n0 (Bn s) (EnN s ({ frames := 5, cells := 3, slots := 36, locals := 69 } : Room) n0 (fun v h => ∃ a t kb, v = some (.ref a) ∧ Keep h0 h [] ∧ Str Z h a t kb (own_fill ws (y &&& 255) N 16))) _ _ _ 265 #[.val (.ref wa), .val (.int (Int32.ofNat N)), .val (.int (y &&& 255)), .val (.ref ca)] [(.ref sa)]
    refine Go.retA C rfl d3_265 rfl (by decide) (by rw [hlen]; show 20 + N ≤ 36; omega) ?_
    exact ⟨sa, t6, kb6, rfl, (((((Keep.refl h0 []).ext E1).trans K2 (allS (Or.inr (Nat.le_of_eq e_ca.symm)) all0)).ext E5).trans K6 (allS (Or.inr (e_sa ▸ Nat.le_trans E1.1 K2.1)) all0)), S6⟩
  have K15 : ∀ h, Keep h1 h [ca] → Arv Z h ca kC .char (Int32.ofNat N) ((own_fill ws (y &&& 255) N 15).map Value.int) (.int 0) → Go p l e ({ frames := 5, cells := 3, slots := 36, locals := 69 } : Room) s m #[.ref wa, .int (Int32.ofNat N), .int (y &&& 255)] below meth c Z "com/example/llave/llave/policy/ObjectiveOfPinLaw" n0 (Bn s) (EnN s ({ frames := 5, cells := 3, slots := 36, locals := 69 } : Room) n0 (fun v h => ∃ a t kb, v = some (.ref a) ∧ Keep h0 h [] ∧ Str Z h a t kb (own_fill ws (y &&& 255) N 16))) h 1 16 240 #[.val (.ref wa), .val (.int (Int32.ofNat N)), .val (.int (y &&& 255)), .val (.ref ca)] [] := by
    intro h2 KK VV
    refine Go.iloadN C d3_240 rfl (pc' := 241) rfl ?_
    refine Go.bipush C d3_241 (v := 15) rfl (pc' := 243) rfl ?_
    refine Go.icmp_le C d3_243 (by decide) (pc1 := 257) (by decide) (pc2 := 246) rfl (fun hc => ?_) (fun hc => ?_)
    · exact K16 h2 KK (by rw [own_skip (i := 15) (j := 16) rfl (Nat.le_of_not_lt fun q => hc ((own_lt15 N hN).mpr q))]; exact VV)
    · have hi : 15 < N := (own_lt15 N hN).mp hc
      have O2 := O1.keep KK (allS nca all0)
      have S2 := S1.keep KK wn tn
      refine Go.aloadN C d3_246 rfl rfl (pc' := 247) rfl ?_
      refine Go.bipush C d3_247 (v := 15) rfl (pc' := 249) rfl ?_
      refine Go.aloadN C d3_249 rfl rfl (pc' := 250) rfl ?_
      refine Go.bipush C d3_250 (v := 15) rfl (pc' := 252) rfl ?_
      refine Go.iloadN C d3_252 rfl (pc' := 253) rfl ?_
      show Go p l e ({ frames := 5, cells := 3, slots := 36, locals := 69 } : Room) s m #[.ref wa, .int (Int32.ofNat N), .int (y &&& 255)] below meth c Z "com/example/llave/llave/policy/ObjectiveOfPinLaw" n0 (Bn s) (EnN s ({ frames := 5, cells := 3, slots := 36, locals := 69 } : Room) n0 (fun v h => ∃ a t kb, v = some (.ref a) ∧ Keep h0 h [] ∧ Str Z h a t kb (own_fill ws (y &&& 255) N 16))) h2 1 16 253 #[.val (.ref wa), .val (.int (Int32.ofNat N)), .val (.int (y &&& 255)), .val (.ref ca)] [(.int (y &&& 255)), (.int (Int32.ofNat 15)), (.ref wa), (.int (15 : Int32)), (.ref ca)]
      refine Go.callS C d3_253 (hw _ (List.mem_of_getElem? (i := 30) rfl)) (hw _ (List.mem_of_getElem? (i := 31) rfl)) (hw _ (List.mem_of_getElem? (i := 27) rfl)) (hw _ (List.mem_of_getElem? (i := 32) rfl)) (by decide) (argsL := [(.ref wa), (.int (Int32.ofNat 15)), (.int (y &&& 255))]) (rest := [(.int (15 : Int32)), (.ref ca)]) rfl (lenOf pd__Ljava_lang_String_IC_C rfl) rfl (W := 2) (Nat.le_of_ble_eq_true rfl) (Ct.pay (rm_at l Z a0 hw wa wt wk ws 15 y z fm h2 n0 S2 (by decide) hl St hz Fm rf O2) (hw _ (List.mem_of_getElem? (i := 32) rfl)) (hw _ (List.mem_of_getElem? (i := 27) rfl)) (by decide) (by decide)) (fun _ _ _ q => q.2) (by decide) (by decide) (fun _ _ _ _ _ q => q) (pc' := 256) rfl ?_
      rintro _ _ L1 ⟨⟨rfl, rfl⟩, -⟩
      show Go p l e ({ frames := 5, cells := 3, slots := 36, locals := 69 } : Room) s m #[.ref wa, .int (Int32.ofNat N), .int (y &&& 255)] below meth c Z "com/example/llave/llave/policy/ObjectiveOfPinLaw" n0 (Bn s) (EnN s ({ frames := 5, cells := 3, slots := 36, locals := 69 } : Room) n0 (fun v h => ∃ a t kb, v = some (.ref a) ∧ Keep h0 h [] ∧ Str Z h a t kb (own_fill ws (y &&& 255) N 16))) _ _ _ 256 #[.val (.ref wa), .val (.int (Int32.ofNat N)), .val (.int (y &&& 255)), .val (.ref ca)] [(.int (own_at ws (y &&& 255) 15)), (.int (15 : Int32)), (.ref ca)]
      refine Go.castoreV C d3_256 VV (by decide) hc 15 (by decide) (by rw [List.length_map, own_len]; exact hi) nca (fun _ _ _ q => q) (pc' := 257) rfl ?_
      intro h3 W3 V3
      rw [own_nr (own_atr S.2.2.2.2.1 y 15), own_set (i := 15) (j := 16) rfl hi] at V3
      exact K16 h3 (KK.wr W3 (Or.inl (List.mem_singleton.mpr rfl))) V3
  have K14 : ∀ h, Keep h1 h [ca] → Arv Z h ca kC .char (Int32.ofNat N) ((own_fill ws (y &&& 255) N 14).map Value.int) (.int 0) → Go p l e ({ frames := 5, cells := 3, slots := 36, locals := 69 } : Room) s m #[.ref wa, .int (Int32.ofNat N), .int (y &&& 255)] below meth c Z "com/example/llave/llave/policy/ObjectiveOfPinLaw" n0 (Bn s) (EnN s ({ frames := 5, cells := 3, slots := 36, locals := 69 } : Room) n0 (fun v h => ∃ a t kb, v = some (.ref a) ∧ Keep h0 h [] ∧ Str Z h a t kb (own_fill ws (y &&& 255) N 16))) h 1 16 223 #[.val (.ref wa), .val (.int (Int32.ofNat N)), .val (.int (y &&& 255)), .val (.ref ca)] [] := by
    intro h2 KK VV
    refine Go.iloadN C d3_223 rfl (pc' := 224) rfl ?_
    refine Go.bipush C d3_224 (v := 14) rfl (pc' := 226) rfl ?_
    refine Go.icmp_le C d3_226 (by decide) (pc1 := 240) (by decide) (pc2 := 229) rfl (fun hc => ?_) (fun hc => ?_)
    · exact K15 h2 KK (by rw [own_skip (i := 14) (j := 15) rfl (Nat.le_of_not_lt fun q => hc ((own_lt14 N hN).mpr q))]; exact VV)
    · have hi : 14 < N := (own_lt14 N hN).mp hc
      have O2 := O1.keep KK (allS nca all0)
      have S2 := S1.keep KK wn tn
      refine Go.aloadN C d3_229 rfl rfl (pc' := 230) rfl ?_
      refine Go.bipush C d3_230 (v := 14) rfl (pc' := 232) rfl ?_
      refine Go.aloadN C d3_232 rfl rfl (pc' := 233) rfl ?_
      refine Go.bipush C d3_233 (v := 14) rfl (pc' := 235) rfl ?_
      refine Go.iloadN C d3_235 rfl (pc' := 236) rfl ?_
      show Go p l e ({ frames := 5, cells := 3, slots := 36, locals := 69 } : Room) s m #[.ref wa, .int (Int32.ofNat N), .int (y &&& 255)] below meth c Z "com/example/llave/llave/policy/ObjectiveOfPinLaw" n0 (Bn s) (EnN s ({ frames := 5, cells := 3, slots := 36, locals := 69 } : Room) n0 (fun v h => ∃ a t kb, v = some (.ref a) ∧ Keep h0 h [] ∧ Str Z h a t kb (own_fill ws (y &&& 255) N 16))) h2 1 16 236 #[.val (.ref wa), .val (.int (Int32.ofNat N)), .val (.int (y &&& 255)), .val (.ref ca)] [(.int (y &&& 255)), (.int (Int32.ofNat 14)), (.ref wa), (.int (14 : Int32)), (.ref ca)]
      refine Go.callS C d3_236 (hw _ (List.mem_of_getElem? (i := 30) rfl)) (hw _ (List.mem_of_getElem? (i := 31) rfl)) (hw _ (List.mem_of_getElem? (i := 27) rfl)) (hw _ (List.mem_of_getElem? (i := 32) rfl)) (by decide) (argsL := [(.ref wa), (.int (Int32.ofNat 14)), (.int (y &&& 255))]) (rest := [(.int (14 : Int32)), (.ref ca)]) rfl (lenOf pd__Ljava_lang_String_IC_C rfl) rfl (W := 2) (Nat.le_of_ble_eq_true rfl) (Ct.pay (rm_at l Z a0 hw wa wt wk ws 14 y z fm h2 n0 S2 (by decide) hl St hz Fm rf O2) (hw _ (List.mem_of_getElem? (i := 32) rfl)) (hw _ (List.mem_of_getElem? (i := 27) rfl)) (by decide) (by decide)) (fun _ _ _ q => q.2) (by decide) (by decide) (fun _ _ _ _ _ q => q) (pc' := 239) rfl ?_
      rintro _ _ L1 ⟨⟨rfl, rfl⟩, -⟩
      show Go p l e ({ frames := 5, cells := 3, slots := 36, locals := 69 } : Room) s m #[.ref wa, .int (Int32.ofNat N), .int (y &&& 255)] below meth c Z "com/example/llave/llave/policy/ObjectiveOfPinLaw" n0 (Bn s) (EnN s ({ frames := 5, cells := 3, slots := 36, locals := 69 } : Room) n0 (fun v h => ∃ a t kb, v = some (.ref a) ∧ Keep h0 h [] ∧ Str Z h a t kb (own_fill ws (y &&& 255) N 16))) _ _ _ 239 #[.val (.ref wa), .val (.int (Int32.ofNat N)), .val (.int (y &&& 255)), .val (.ref ca)] [(.int (own_at ws (y &&& 255) 14)), (.int (14 : Int32)), (.ref ca)]
      refine Go.castoreV C d3_239 VV (by decide) hc 14 (by decide) (by rw [List.length_map, own_len]; exact hi) nca (fun _ _ _ q => q) (pc' := 240) rfl ?_
      intro h3 W3 V3
      rw [own_nr (own_atr S.2.2.2.2.1 y 14), own_set (i := 14) (j := 15) rfl hi] at V3
      exact K15 h3 (KK.wr W3 (Or.inl (List.mem_singleton.mpr rfl))) V3
  have K13 : ∀ h, Keep h1 h [ca] → Arv Z h ca kC .char (Int32.ofNat N) ((own_fill ws (y &&& 255) N 13).map Value.int) (.int 0) → Go p l e ({ frames := 5, cells := 3, slots := 36, locals := 69 } : Room) s m #[.ref wa, .int (Int32.ofNat N), .int (y &&& 255)] below meth c Z "com/example/llave/llave/policy/ObjectiveOfPinLaw" n0 (Bn s) (EnN s ({ frames := 5, cells := 3, slots := 36, locals := 69 } : Room) n0 (fun v h => ∃ a t kb, v = some (.ref a) ∧ Keep h0 h [] ∧ Str Z h a t kb (own_fill ws (y &&& 255) N 16))) h 1 16 206 #[.val (.ref wa), .val (.int (Int32.ofNat N)), .val (.int (y &&& 255)), .val (.ref ca)] [] := by
    intro h2 KK VV
    refine Go.iloadN C d3_206 rfl (pc' := 207) rfl ?_
    refine Go.bipush C d3_207 (v := 13) rfl (pc' := 209) rfl ?_
    refine Go.icmp_le C d3_209 (by decide) (pc1 := 223) (by decide) (pc2 := 212) rfl (fun hc => ?_) (fun hc => ?_)
    · exact K14 h2 KK (by rw [own_skip (i := 13) (j := 14) rfl (Nat.le_of_not_lt fun q => hc ((own_lt13 N hN).mpr q))]; exact VV)
    · have hi : 13 < N := (own_lt13 N hN).mp hc
      have O2 := O1.keep KK (allS nca all0)
      have S2 := S1.keep KK wn tn
      refine Go.aloadN C d3_212 rfl rfl (pc' := 213) rfl ?_
      refine Go.bipush C d3_213 (v := 13) rfl (pc' := 215) rfl ?_
      refine Go.aloadN C d3_215 rfl rfl (pc' := 216) rfl ?_
      refine Go.bipush C d3_216 (v := 13) rfl (pc' := 218) rfl ?_
      refine Go.iloadN C d3_218 rfl (pc' := 219) rfl ?_
      show Go p l e ({ frames := 5, cells := 3, slots := 36, locals := 69 } : Room) s m #[.ref wa, .int (Int32.ofNat N), .int (y &&& 255)] below meth c Z "com/example/llave/llave/policy/ObjectiveOfPinLaw" n0 (Bn s) (EnN s ({ frames := 5, cells := 3, slots := 36, locals := 69 } : Room) n0 (fun v h => ∃ a t kb, v = some (.ref a) ∧ Keep h0 h [] ∧ Str Z h a t kb (own_fill ws (y &&& 255) N 16))) h2 1 16 219 #[.val (.ref wa), .val (.int (Int32.ofNat N)), .val (.int (y &&& 255)), .val (.ref ca)] [(.int (y &&& 255)), (.int (Int32.ofNat 13)), (.ref wa), (.int (13 : Int32)), (.ref ca)]
      refine Go.callS C d3_219 (hw _ (List.mem_of_getElem? (i := 30) rfl)) (hw _ (List.mem_of_getElem? (i := 31) rfl)) (hw _ (List.mem_of_getElem? (i := 27) rfl)) (hw _ (List.mem_of_getElem? (i := 32) rfl)) (by decide) (argsL := [(.ref wa), (.int (Int32.ofNat 13)), (.int (y &&& 255))]) (rest := [(.int (13 : Int32)), (.ref ca)]) rfl (lenOf pd__Ljava_lang_String_IC_C rfl) rfl (W := 2) (Nat.le_of_ble_eq_true rfl) (Ct.pay (rm_at l Z a0 hw wa wt wk ws 13 y z fm h2 n0 S2 (by decide) hl St hz Fm rf O2) (hw _ (List.mem_of_getElem? (i := 32) rfl)) (hw _ (List.mem_of_getElem? (i := 27) rfl)) (by decide) (by decide)) (fun _ _ _ q => q.2) (by decide) (by decide) (fun _ _ _ _ _ q => q) (pc' := 222) rfl ?_
      rintro _ _ L1 ⟨⟨rfl, rfl⟩, -⟩
      show Go p l e ({ frames := 5, cells := 3, slots := 36, locals := 69 } : Room) s m #[.ref wa, .int (Int32.ofNat N), .int (y &&& 255)] below meth c Z "com/example/llave/llave/policy/ObjectiveOfPinLaw" n0 (Bn s) (EnN s ({ frames := 5, cells := 3, slots := 36, locals := 69 } : Room) n0 (fun v h => ∃ a t kb, v = some (.ref a) ∧ Keep h0 h [] ∧ Str Z h a t kb (own_fill ws (y &&& 255) N 16))) _ _ _ 222 #[.val (.ref wa), .val (.int (Int32.ofNat N)), .val (.int (y &&& 255)), .val (.ref ca)] [(.int (own_at ws (y &&& 255) 13)), (.int (13 : Int32)), (.ref ca)]
      refine Go.castoreV C d3_222 VV (by decide) hc 13 (by decide) (by rw [List.length_map, own_len]; exact hi) nca (fun _ _ _ q => q) (pc' := 223) rfl ?_
      intro h3 W3 V3
      rw [own_nr (own_atr S.2.2.2.2.1 y 13), own_set (i := 13) (j := 14) rfl hi] at V3
      exact K14 h3 (KK.wr W3 (Or.inl (List.mem_singleton.mpr rfl))) V3
  have K12 : ∀ h, Keep h1 h [ca] → Arv Z h ca kC .char (Int32.ofNat N) ((own_fill ws (y &&& 255) N 12).map Value.int) (.int 0) → Go p l e ({ frames := 5, cells := 3, slots := 36, locals := 69 } : Room) s m #[.ref wa, .int (Int32.ofNat N), .int (y &&& 255)] below meth c Z "com/example/llave/llave/policy/ObjectiveOfPinLaw" n0 (Bn s) (EnN s ({ frames := 5, cells := 3, slots := 36, locals := 69 } : Room) n0 (fun v h => ∃ a t kb, v = some (.ref a) ∧ Keep h0 h [] ∧ Str Z h a t kb (own_fill ws (y &&& 255) N 16))) h 1 16 189 #[.val (.ref wa), .val (.int (Int32.ofNat N)), .val (.int (y &&& 255)), .val (.ref ca)] [] := by
    intro h2 KK VV
    refine Go.iloadN C d3_189 rfl (pc' := 190) rfl ?_
    refine Go.bipush C d3_190 (v := 12) rfl (pc' := 192) rfl ?_
    refine Go.icmp_le C d3_192 (by decide) (pc1 := 206) (by decide) (pc2 := 195) rfl (fun hc => ?_) (fun hc => ?_)
    · exact K13 h2 KK (by rw [own_skip (i := 12) (j := 13) rfl (Nat.le_of_not_lt fun q => hc ((own_lt12 N hN).mpr q))]; exact VV)
    · have hi : 12 < N := (own_lt12 N hN).mp hc
      have O2 := O1.keep KK (allS nca all0)
      have S2 := S1.keep KK wn tn
      refine Go.aloadN C d3_195 rfl rfl (pc' := 196) rfl ?_
      refine Go.bipush C d3_196 (v := 12) rfl (pc' := 198) rfl ?_
      refine Go.aloadN C d3_198 rfl rfl (pc' := 199) rfl ?_
      refine Go.bipush C d3_199 (v := 12) rfl (pc' := 201) rfl ?_
      refine Go.iloadN C d3_201 rfl (pc' := 202) rfl ?_
      show Go p l e ({ frames := 5, cells := 3, slots := 36, locals := 69 } : Room) s m #[.ref wa, .int (Int32.ofNat N), .int (y &&& 255)] below meth c Z "com/example/llave/llave/policy/ObjectiveOfPinLaw" n0 (Bn s) (EnN s ({ frames := 5, cells := 3, slots := 36, locals := 69 } : Room) n0 (fun v h => ∃ a t kb, v = some (.ref a) ∧ Keep h0 h [] ∧ Str Z h a t kb (own_fill ws (y &&& 255) N 16))) h2 1 16 202 #[.val (.ref wa), .val (.int (Int32.ofNat N)), .val (.int (y &&& 255)), .val (.ref ca)] [(.int (y &&& 255)), (.int (Int32.ofNat 12)), (.ref wa), (.int (12 : Int32)), (.ref ca)]
      refine Go.callS C d3_202 (hw _ (List.mem_of_getElem? (i := 30) rfl)) (hw _ (List.mem_of_getElem? (i := 31) rfl)) (hw _ (List.mem_of_getElem? (i := 27) rfl)) (hw _ (List.mem_of_getElem? (i := 32) rfl)) (by decide) (argsL := [(.ref wa), (.int (Int32.ofNat 12)), (.int (y &&& 255))]) (rest := [(.int (12 : Int32)), (.ref ca)]) rfl (lenOf pd__Ljava_lang_String_IC_C rfl) rfl (W := 2) (Nat.le_of_ble_eq_true rfl) (Ct.pay (rm_at l Z a0 hw wa wt wk ws 12 y z fm h2 n0 S2 (by decide) hl St hz Fm rf O2) (hw _ (List.mem_of_getElem? (i := 32) rfl)) (hw _ (List.mem_of_getElem? (i := 27) rfl)) (by decide) (by decide)) (fun _ _ _ q => q.2) (by decide) (by decide) (fun _ _ _ _ _ q => q) (pc' := 205) rfl ?_
      rintro _ _ L1 ⟨⟨rfl, rfl⟩, -⟩
      show Go p l e ({ frames := 5, cells := 3, slots := 36, locals := 69 } : Room) s m #[.ref wa, .int (Int32.ofNat N), .int (y &&& 255)] below meth c Z "com/example/llave/llave/policy/ObjectiveOfPinLaw" n0 (Bn s) (EnN s ({ frames := 5, cells := 3, slots := 36, locals := 69 } : Room) n0 (fun v h => ∃ a t kb, v = some (.ref a) ∧ Keep h0 h [] ∧ Str Z h a t kb (own_fill ws (y &&& 255) N 16))) _ _ _ 205 #[.val (.ref wa), .val (.int (Int32.ofNat N)), .val (.int (y &&& 255)), .val (.ref ca)] [(.int (own_at ws (y &&& 255) 12)), (.int (12 : Int32)), (.ref ca)]
      refine Go.castoreV C d3_205 VV (by decide) hc 12 (by decide) (by rw [List.length_map, own_len]; exact hi) nca (fun _ _ _ q => q) (pc' := 206) rfl ?_
      intro h3 W3 V3
      rw [own_nr (own_atr S.2.2.2.2.1 y 12), own_set (i := 12) (j := 13) rfl hi] at V3
      exact K13 h3 (KK.wr W3 (Or.inl (List.mem_singleton.mpr rfl))) V3
  have K11 : ∀ h, Keep h1 h [ca] → Arv Z h ca kC .char (Int32.ofNat N) ((own_fill ws (y &&& 255) N 11).map Value.int) (.int 0) → Go p l e ({ frames := 5, cells := 3, slots := 36, locals := 69 } : Room) s m #[.ref wa, .int (Int32.ofNat N), .int (y &&& 255)] below meth c Z "com/example/llave/llave/policy/ObjectiveOfPinLaw" n0 (Bn s) (EnN s ({ frames := 5, cells := 3, slots := 36, locals := 69 } : Room) n0 (fun v h => ∃ a t kb, v = some (.ref a) ∧ Keep h0 h [] ∧ Str Z h a t kb (own_fill ws (y &&& 255) N 16))) h 1 16 172 #[.val (.ref wa), .val (.int (Int32.ofNat N)), .val (.int (y &&& 255)), .val (.ref ca)] [] := by
    intro h2 KK VV
    refine Go.iloadN C d3_172 rfl (pc' := 173) rfl ?_
    refine Go.bipush C d3_173 (v := 11) rfl (pc' := 175) rfl ?_
    refine Go.icmp_le C d3_175 (by decide) (pc1 := 189) (by decide) (pc2 := 178) rfl (fun hc => ?_) (fun hc => ?_)
    · exact K12 h2 KK (by rw [own_skip (i := 11) (j := 12) rfl (Nat.le_of_not_lt fun q => hc ((own_lt11 N hN).mpr q))]; exact VV)
    · have hi : 11 < N := (own_lt11 N hN).mp hc
      have O2 := O1.keep KK (allS nca all0)
      have S2 := S1.keep KK wn tn
      refine Go.aloadN C d3_178 rfl rfl (pc' := 179) rfl ?_
      refine Go.bipush C d3_179 (v := 11) rfl (pc' := 181) rfl ?_
      refine Go.aloadN C d3_181 rfl rfl (pc' := 182) rfl ?_
      refine Go.bipush C d3_182 (v := 11) rfl (pc' := 184) rfl ?_
      refine Go.iloadN C d3_184 rfl (pc' := 185) rfl ?_
      show Go p l e ({ frames := 5, cells := 3, slots := 36, locals := 69 } : Room) s m #[.ref wa, .int (Int32.ofNat N), .int (y &&& 255)] below meth c Z "com/example/llave/llave/policy/ObjectiveOfPinLaw" n0 (Bn s) (EnN s ({ frames := 5, cells := 3, slots := 36, locals := 69 } : Room) n0 (fun v h => ∃ a t kb, v = some (.ref a) ∧ Keep h0 h [] ∧ Str Z h a t kb (own_fill ws (y &&& 255) N 16))) h2 1 16 185 #[.val (.ref wa), .val (.int (Int32.ofNat N)), .val (.int (y &&& 255)), .val (.ref ca)] [(.int (y &&& 255)), (.int (Int32.ofNat 11)), (.ref wa), (.int (11 : Int32)), (.ref ca)]
      refine Go.callS C d3_185 (hw _ (List.mem_of_getElem? (i := 30) rfl)) (hw _ (List.mem_of_getElem? (i := 31) rfl)) (hw _ (List.mem_of_getElem? (i := 27) rfl)) (hw _ (List.mem_of_getElem? (i := 32) rfl)) (by decide) (argsL := [(.ref wa), (.int (Int32.ofNat 11)), (.int (y &&& 255))]) (rest := [(.int (11 : Int32)), (.ref ca)]) rfl (lenOf pd__Ljava_lang_String_IC_C rfl) rfl (W := 2) (Nat.le_of_ble_eq_true rfl) (Ct.pay (rm_at l Z a0 hw wa wt wk ws 11 y z fm h2 n0 S2 (by decide) hl St hz Fm rf O2) (hw _ (List.mem_of_getElem? (i := 32) rfl)) (hw _ (List.mem_of_getElem? (i := 27) rfl)) (by decide) (by decide)) (fun _ _ _ q => q.2) (by decide) (by decide) (fun _ _ _ _ _ q => q) (pc' := 188) rfl ?_
      rintro _ _ L1 ⟨⟨rfl, rfl⟩, -⟩
      show Go p l e ({ frames := 5, cells := 3, slots := 36, locals := 69 } : Room) s m #[.ref wa, .int (Int32.ofNat N), .int (y &&& 255)] below meth c Z "com/example/llave/llave/policy/ObjectiveOfPinLaw" n0 (Bn s) (EnN s ({ frames := 5, cells := 3, slots := 36, locals := 69 } : Room) n0 (fun v h => ∃ a t kb, v = some (.ref a) ∧ Keep h0 h [] ∧ Str Z h a t kb (own_fill ws (y &&& 255) N 16))) _ _ _ 188 #[.val (.ref wa), .val (.int (Int32.ofNat N)), .val (.int (y &&& 255)), .val (.ref ca)] [(.int (own_at ws (y &&& 255) 11)), (.int (11 : Int32)), (.ref ca)]
      refine Go.castoreV C d3_188 VV (by decide) hc 11 (by decide) (by rw [List.length_map, own_len]; exact hi) nca (fun _ _ _ q => q) (pc' := 189) rfl ?_
      intro h3 W3 V3
      rw [own_nr (own_atr S.2.2.2.2.1 y 11), own_set (i := 11) (j := 12) rfl hi] at V3
      exact K12 h3 (KK.wr W3 (Or.inl (List.mem_singleton.mpr rfl))) V3
  have K10 : ∀ h, Keep h1 h [ca] → Arv Z h ca kC .char (Int32.ofNat N) ((own_fill ws (y &&& 255) N 10).map Value.int) (.int 0) → Go p l e ({ frames := 5, cells := 3, slots := 36, locals := 69 } : Room) s m #[.ref wa, .int (Int32.ofNat N), .int (y &&& 255)] below meth c Z "com/example/llave/llave/policy/ObjectiveOfPinLaw" n0 (Bn s) (EnN s ({ frames := 5, cells := 3, slots := 36, locals := 69 } : Room) n0 (fun v h => ∃ a t kb, v = some (.ref a) ∧ Keep h0 h [] ∧ Str Z h a t kb (own_fill ws (y &&& 255) N 16))) h 1 16 155 #[.val (.ref wa), .val (.int (Int32.ofNat N)), .val (.int (y &&& 255)), .val (.ref ca)] [] := by
    intro h2 KK VV
    refine Go.iloadN C d3_155 rfl (pc' := 156) rfl ?_
    refine Go.bipush C d3_156 (v := 10) rfl (pc' := 158) rfl ?_
    refine Go.icmp_le C d3_158 (by decide) (pc1 := 172) (by decide) (pc2 := 161) rfl (fun hc => ?_) (fun hc => ?_)
    · exact K11 h2 KK (by rw [own_skip (i := 10) (j := 11) rfl (Nat.le_of_not_lt fun q => hc ((own_lt10 N hN).mpr q))]; exact VV)
    · have hi : 10 < N := (own_lt10 N hN).mp hc
      have O2 := O1.keep KK (allS nca all0)
      have S2 := S1.keep KK wn tn
      refine Go.aloadN C d3_161 rfl rfl (pc' := 162) rfl ?_
      refine Go.bipush C d3_162 (v := 10) rfl (pc' := 164) rfl ?_
      refine Go.aloadN C d3_164 rfl rfl (pc' := 165) rfl ?_
      refine Go.bipush C d3_165 (v := 10) rfl (pc' := 167) rfl ?_
      refine Go.iloadN C d3_167 rfl (pc' := 168) rfl ?_
      show Go p l e ({ frames := 5, cells := 3, slots := 36, locals := 69 } : Room) s m #[.ref wa, .int (Int32.ofNat N), .int (y &&& 255)] below meth c Z "com/example/llave/llave/policy/ObjectiveOfPinLaw" n0 (Bn s) (EnN s ({ frames := 5, cells := 3, slots := 36, locals := 69 } : Room) n0 (fun v h => ∃ a t kb, v = some (.ref a) ∧ Keep h0 h [] ∧ Str Z h a t kb (own_fill ws (y &&& 255) N 16))) h2 1 16 168 #[.val (.ref wa), .val (.int (Int32.ofNat N)), .val (.int (y &&& 255)), .val (.ref ca)] [(.int (y &&& 255)), (.int (Int32.ofNat 10)), (.ref wa), (.int (10 : Int32)), (.ref ca)]
      refine Go.callS C d3_168 (hw _ (List.mem_of_getElem? (i := 30) rfl)) (hw _ (List.mem_of_getElem? (i := 31) rfl)) (hw _ (List.mem_of_getElem? (i := 27) rfl)) (hw _ (List.mem_of_getElem? (i := 32) rfl)) (by decide) (argsL := [(.ref wa), (.int (Int32.ofNat 10)), (.int (y &&& 255))]) (rest := [(.int (10 : Int32)), (.ref ca)]) rfl (lenOf pd__Ljava_lang_String_IC_C rfl) rfl (W := 2) (Nat.le_of_ble_eq_true rfl) (Ct.pay (rm_at l Z a0 hw wa wt wk ws 10 y z fm h2 n0 S2 (by decide) hl St hz Fm rf O2) (hw _ (List.mem_of_getElem? (i := 32) rfl)) (hw _ (List.mem_of_getElem? (i := 27) rfl)) (by decide) (by decide)) (fun _ _ _ q => q.2) (by decide) (by decide) (fun _ _ _ _ _ q => q) (pc' := 171) rfl ?_
      rintro _ _ L1 ⟨⟨rfl, rfl⟩, -⟩
      show Go p l e ({ frames := 5, cells := 3, slots := 36, locals := 69 } : Room) s m #[.ref wa, .int (Int32.ofNat N), .int (y &&& 255)] below meth c Z "com/example/llave/llave/policy/ObjectiveOfPinLaw" n0 (Bn s) (EnN s ({ frames := 5, cells := 3, slots := 36, locals := 69 } : Room) n0 (fun v h => ∃ a t kb, v = some (.ref a) ∧ Keep h0 h [] ∧ Str Z h a t kb (own_fill ws (y &&& 255) N 16))) _ _ _ 171 #[.val (.ref wa), .val (.int (Int32.ofNat N)), .val (.int (y &&& 255)), .val (.ref ca)] [(.int (own_at ws (y &&& 255) 10)), (.int (10 : Int32)), (.ref ca)]
      refine Go.castoreV C d3_171 VV (by decide) hc 10 (by decide) (by rw [List.length_map, own_len]; exact hi) nca (fun _ _ _ q => q) (pc' := 172) rfl ?_
      intro h3 W3 V3
      rw [own_nr (own_atr S.2.2.2.2.1 y 10), own_set (i := 10) (j := 11) rfl hi] at V3
      exact K11 h3 (KK.wr W3 (Or.inl (List.mem_singleton.mpr rfl))) V3
  have K9 : ∀ h, Keep h1 h [ca] → Arv Z h ca kC .char (Int32.ofNat N) ((own_fill ws (y &&& 255) N 9).map Value.int) (.int 0) → Go p l e ({ frames := 5, cells := 3, slots := 36, locals := 69 } : Room) s m #[.ref wa, .int (Int32.ofNat N), .int (y &&& 255)] below meth c Z "com/example/llave/llave/policy/ObjectiveOfPinLaw" n0 (Bn s) (EnN s ({ frames := 5, cells := 3, slots := 36, locals := 69 } : Room) n0 (fun v h => ∃ a t kb, v = some (.ref a) ∧ Keep h0 h [] ∧ Str Z h a t kb (own_fill ws (y &&& 255) N 16))) h 1 16 138 #[.val (.ref wa), .val (.int (Int32.ofNat N)), .val (.int (y &&& 255)), .val (.ref ca)] [] := by
    intro h2 KK VV
    refine Go.iloadN C d3_138 rfl (pc' := 139) rfl ?_
    refine Go.bipush C d3_139 (v := 9) rfl (pc' := 141) rfl ?_
    refine Go.icmp_le C d3_141 (by decide) (pc1 := 155) (by decide) (pc2 := 144) rfl (fun hc => ?_) (fun hc => ?_)
    · exact K10 h2 KK (by rw [own_skip (i := 9) (j := 10) rfl (Nat.le_of_not_lt fun q => hc ((own_lt9 N hN).mpr q))]; exact VV)
    · have hi : 9 < N := (own_lt9 N hN).mp hc
      have O2 := O1.keep KK (allS nca all0)
      have S2 := S1.keep KK wn tn
      refine Go.aloadN C d3_144 rfl rfl (pc' := 145) rfl ?_
      refine Go.bipush C d3_145 (v := 9) rfl (pc' := 147) rfl ?_
      refine Go.aloadN C d3_147 rfl rfl (pc' := 148) rfl ?_
      refine Go.bipush C d3_148 (v := 9) rfl (pc' := 150) rfl ?_
      refine Go.iloadN C d3_150 rfl (pc' := 151) rfl ?_
      show Go p l e ({ frames := 5, cells := 3, slots := 36, locals := 69 } : Room) s m #[.ref wa, .int (Int32.ofNat N), .int (y &&& 255)] below meth c Z "com/example/llave/llave/policy/ObjectiveOfPinLaw" n0 (Bn s) (EnN s ({ frames := 5, cells := 3, slots := 36, locals := 69 } : Room) n0 (fun v h => ∃ a t kb, v = some (.ref a) ∧ Keep h0 h [] ∧ Str Z h a t kb (own_fill ws (y &&& 255) N 16))) h2 1 16 151 #[.val (.ref wa), .val (.int (Int32.ofNat N)), .val (.int (y &&& 255)), .val (.ref ca)] [(.int (y &&& 255)), (.int (Int32.ofNat 9)), (.ref wa), (.int (9 : Int32)), (.ref ca)]
      refine Go.callS C d3_151 (hw _ (List.mem_of_getElem? (i := 30) rfl)) (hw _ (List.mem_of_getElem? (i := 31) rfl)) (hw _ (List.mem_of_getElem? (i := 27) rfl)) (hw _ (List.mem_of_getElem? (i := 32) rfl)) (by decide) (argsL := [(.ref wa), (.int (Int32.ofNat 9)), (.int (y &&& 255))]) (rest := [(.int (9 : Int32)), (.ref ca)]) rfl (lenOf pd__Ljava_lang_String_IC_C rfl) rfl (W := 2) (Nat.le_of_ble_eq_true rfl) (Ct.pay (rm_at l Z a0 hw wa wt wk ws 9 y z fm h2 n0 S2 (by decide) hl St hz Fm rf O2) (hw _ (List.mem_of_getElem? (i := 32) rfl)) (hw _ (List.mem_of_getElem? (i := 27) rfl)) (by decide) (by decide)) (fun _ _ _ q => q.2) (by decide) (by decide) (fun _ _ _ _ _ q => q) (pc' := 154) rfl ?_
      rintro _ _ L1 ⟨⟨rfl, rfl⟩, -⟩
      show Go p l e ({ frames := 5, cells := 3, slots := 36, locals := 69 } : Room) s m #[.ref wa, .int (Int32.ofNat N), .int (y &&& 255)] below meth c Z "com/example/llave/llave/policy/ObjectiveOfPinLaw" n0 (Bn s) (EnN s ({ frames := 5, cells := 3, slots := 36, locals := 69 } : Room) n0 (fun v h => ∃ a t kb, v = some (.ref a) ∧ Keep h0 h [] ∧ Str Z h a t kb (own_fill ws (y &&& 255) N 16))) _ _ _ 154 #[.val (.ref wa), .val (.int (Int32.ofNat N)), .val (.int (y &&& 255)), .val (.ref ca)] [(.int (own_at ws (y &&& 255) 9)), (.int (9 : Int32)), (.ref ca)]
      refine Go.castoreV C d3_154 VV (by decide) hc 9 (by decide) (by rw [List.length_map, own_len]; exact hi) nca (fun _ _ _ q => q) (pc' := 155) rfl ?_
      intro h3 W3 V3
      rw [own_nr (own_atr S.2.2.2.2.1 y 9), own_set (i := 9) (j := 10) rfl hi] at V3
      exact K10 h3 (KK.wr W3 (Or.inl (List.mem_singleton.mpr rfl))) V3
  have K8 : ∀ h, Keep h1 h [ca] → Arv Z h ca kC .char (Int32.ofNat N) ((own_fill ws (y &&& 255) N 8).map Value.int) (.int 0) → Go p l e ({ frames := 5, cells := 3, slots := 36, locals := 69 } : Room) s m #[.ref wa, .int (Int32.ofNat N), .int (y &&& 255)] below meth c Z "com/example/llave/llave/policy/ObjectiveOfPinLaw" n0 (Bn s) (EnN s ({ frames := 5, cells := 3, slots := 36, locals := 69 } : Room) n0 (fun v h => ∃ a t kb, v = some (.ref a) ∧ Keep h0 h [] ∧ Str Z h a t kb (own_fill ws (y &&& 255) N 16))) h 1 16 121 #[.val (.ref wa), .val (.int (Int32.ofNat N)), .val (.int (y &&& 255)), .val (.ref ca)] [] := by
    intro h2 KK VV
    refine Go.iloadN C d3_121 rfl (pc' := 122) rfl ?_
    refine Go.bipush C d3_122 (v := 8) rfl (pc' := 124) rfl ?_
    refine Go.icmp_le C d3_124 (by decide) (pc1 := 138) (by decide) (pc2 := 127) rfl (fun hc => ?_) (fun hc => ?_)
    · exact K9 h2 KK (by rw [own_skip (i := 8) (j := 9) rfl (Nat.le_of_not_lt fun q => hc ((own_lt8 N hN).mpr q))]; exact VV)
    · have hi : 8 < N := (own_lt8 N hN).mp hc
      have O2 := O1.keep KK (allS nca all0)
      have S2 := S1.keep KK wn tn
      refine Go.aloadN C d3_127 rfl rfl (pc' := 128) rfl ?_
      refine Go.bipush C d3_128 (v := 8) rfl (pc' := 130) rfl ?_
      refine Go.aloadN C d3_130 rfl rfl (pc' := 131) rfl ?_
      refine Go.bipush C d3_131 (v := 8) rfl (pc' := 133) rfl ?_
      refine Go.iloadN C d3_133 rfl (pc' := 134) rfl ?_
      show Go p l e ({ frames := 5, cells := 3, slots := 36, locals := 69 } : Room) s m #[.ref wa, .int (Int32.ofNat N), .int (y &&& 255)] below meth c Z "com/example/llave/llave/policy/ObjectiveOfPinLaw" n0 (Bn s) (EnN s ({ frames := 5, cells := 3, slots := 36, locals := 69 } : Room) n0 (fun v h => ∃ a t kb, v = some (.ref a) ∧ Keep h0 h [] ∧ Str Z h a t kb (own_fill ws (y &&& 255) N 16))) h2 1 16 134 #[.val (.ref wa), .val (.int (Int32.ofNat N)), .val (.int (y &&& 255)), .val (.ref ca)] [(.int (y &&& 255)), (.int (Int32.ofNat 8)), (.ref wa), (.int (8 : Int32)), (.ref ca)]
      refine Go.callS C d3_134 (hw _ (List.mem_of_getElem? (i := 30) rfl)) (hw _ (List.mem_of_getElem? (i := 31) rfl)) (hw _ (List.mem_of_getElem? (i := 27) rfl)) (hw _ (List.mem_of_getElem? (i := 32) rfl)) (by decide) (argsL := [(.ref wa), (.int (Int32.ofNat 8)), (.int (y &&& 255))]) (rest := [(.int (8 : Int32)), (.ref ca)]) rfl (lenOf pd__Ljava_lang_String_IC_C rfl) rfl (W := 2) (Nat.le_of_ble_eq_true rfl) (Ct.pay (rm_at l Z a0 hw wa wt wk ws 8 y z fm h2 n0 S2 (by decide) hl St hz Fm rf O2) (hw _ (List.mem_of_getElem? (i := 32) rfl)) (hw _ (List.mem_of_getElem? (i := 27) rfl)) (by decide) (by decide)) (fun _ _ _ q => q.2) (by decide) (by decide) (fun _ _ _ _ _ q => q) (pc' := 137) rfl ?_
      rintro _ _ L1 ⟨⟨rfl, rfl⟩, -⟩
      show Go p l e ({ frames := 5, cells := 3, slots := 36, locals := 69 } : Room) s m #[.ref wa, .int (Int32.ofNat N), .int (y &&& 255)] below meth c Z "com/example/llave/llave/policy/ObjectiveOfPinLaw" n0 (Bn s) (EnN s ({ frames := 5, cells := 3, slots := 36, locals := 69 } : Room) n0 (fun v h => ∃ a t kb, v = some (.ref a) ∧ Keep h0 h [] ∧ Str Z h a t kb (own_fill ws (y &&& 255) N 16))) _ _ _ 137 #[.val (.ref wa), .val (.int (Int32.ofNat N)), .val (.int (y &&& 255)), .val (.ref ca)] [(.int (own_at ws (y &&& 255) 8)), (.int (8 : Int32)), (.ref ca)]
      refine Go.castoreV C d3_137 VV (by decide) hc 8 (by decide) (by rw [List.length_map, own_len]; exact hi) nca (fun _ _ _ q => q) (pc' := 138) rfl ?_
      intro h3 W3 V3
      rw [own_nr (own_atr S.2.2.2.2.1 y 8), own_set (i := 8) (j := 9) rfl hi] at V3
      exact K9 h3 (KK.wr W3 (Or.inl (List.mem_singleton.mpr rfl))) V3
  have K7 : ∀ h, Keep h1 h [ca] → Arv Z h ca kC .char (Int32.ofNat N) ((own_fill ws (y &&& 255) N 7).map Value.int) (.int 0) → Go p l e ({ frames := 5, cells := 3, slots := 36, locals := 69 } : Room) s m #[.ref wa, .int (Int32.ofNat N), .int (y &&& 255)] below meth c Z "com/example/llave/llave/policy/ObjectiveOfPinLaw" n0 (Bn s) (EnN s ({ frames := 5, cells := 3, slots := 36, locals := 69 } : Room) n0 (fun v h => ∃ a t kb, v = some (.ref a) ∧ Keep h0 h [] ∧ Str Z h a t kb (own_fill ws (y &&& 255) N 16))) h 1 16 104 #[.val (.ref wa), .val (.int (Int32.ofNat N)), .val (.int (y &&& 255)), .val (.ref ca)] [] := by
    intro h2 KK VV
    refine Go.iloadN C d3_104 rfl (pc' := 105) rfl ?_
    refine Go.bipush C d3_105 (v := 7) rfl (pc' := 107) rfl ?_
    refine Go.icmp_le C d3_107 (by decide) (pc1 := 121) (by decide) (pc2 := 110) rfl (fun hc => ?_) (fun hc => ?_)
    · exact K8 h2 KK (by rw [own_skip (i := 7) (j := 8) rfl (Nat.le_of_not_lt fun q => hc ((own_lt7 N hN).mpr q))]; exact VV)
    · have hi : 7 < N := (own_lt7 N hN).mp hc
      have O2 := O1.keep KK (allS nca all0)
      have S2 := S1.keep KK wn tn
      refine Go.aloadN C d3_110 rfl rfl (pc' := 111) rfl ?_
      refine Go.bipush C d3_111 (v := 7) rfl (pc' := 113) rfl ?_
      refine Go.aloadN C d3_113 rfl rfl (pc' := 114) rfl ?_
      refine Go.bipush C d3_114 (v := 7) rfl (pc' := 116) rfl ?_
      refine Go.iloadN C d3_116 rfl (pc' := 117) rfl ?_
      show Go p l e ({ frames := 5, cells := 3, slots := 36, locals := 69 } : Room) s m #[.ref wa, .int (Int32.ofNat N), .int (y &&& 255)] below meth c Z "com/example/llave/llave/policy/ObjectiveOfPinLaw" n0 (Bn s) (EnN s ({ frames := 5, cells := 3, slots := 36, locals := 69 } : Room) n0 (fun v h => ∃ a t kb, v = some (.ref a) ∧ Keep h0 h [] ∧ Str Z h a t kb (own_fill ws (y &&& 255) N 16))) h2 1 16 117 #[.val (.ref wa), .val (.int (Int32.ofNat N)), .val (.int (y &&& 255)), .val (.ref ca)] [(.int (y &&& 255)), (.int (Int32.ofNat 7)), (.ref wa), (.int (7 : Int32)), (.ref ca)]
      refine Go.callS C d3_117 (hw _ (List.mem_of_getElem? (i := 30) rfl)) (hw _ (List.mem_of_getElem? (i := 31) rfl)) (hw _ (List.mem_of_getElem? (i := 27) rfl)) (hw _ (List.mem_of_getElem? (i := 32) rfl)) (by decide) (argsL := [(.ref wa), (.int (Int32.ofNat 7)), (.int (y &&& 255))]) (rest := [(.int (7 : Int32)), (.ref ca)]) rfl (lenOf pd__Ljava_lang_String_IC_C rfl) rfl (W := 2) (Nat.le_of_ble_eq_true rfl) (Ct.pay (rm_at l Z a0 hw wa wt wk ws 7 y z fm h2 n0 S2 (by decide) hl St hz Fm rf O2) (hw _ (List.mem_of_getElem? (i := 32) rfl)) (hw _ (List.mem_of_getElem? (i := 27) rfl)) (by decide) (by decide)) (fun _ _ _ q => q.2) (by decide) (by decide) (fun _ _ _ _ _ q => q) (pc' := 120) rfl ?_
      rintro _ _ L1 ⟨⟨rfl, rfl⟩, -⟩
      show Go p l e ({ frames := 5, cells := 3, slots := 36, locals := 69 } : Room) s m #[.ref wa, .int (Int32.ofNat N), .int (y &&& 255)] below meth c Z "com/example/llave/llave/policy/ObjectiveOfPinLaw" n0 (Bn s) (EnN s ({ frames := 5, cells := 3, slots := 36, locals := 69 } : Room) n0 (fun v h => ∃ a t kb, v = some (.ref a) ∧ Keep h0 h [] ∧ Str Z h a t kb (own_fill ws (y &&& 255) N 16))) _ _ _ 120 #[.val (.ref wa), .val (.int (Int32.ofNat N)), .val (.int (y &&& 255)), .val (.ref ca)] [(.int (own_at ws (y &&& 255) 7)), (.int (7 : Int32)), (.ref ca)]
      refine Go.castoreV C d3_120 VV (by decide) hc 7 (by decide) (by rw [List.length_map, own_len]; exact hi) nca (fun _ _ _ q => q) (pc' := 121) rfl ?_
      intro h3 W3 V3
      rw [own_nr (own_atr S.2.2.2.2.1 y 7), own_set (i := 7) (j := 8) rfl hi] at V3
      exact K8 h3 (KK.wr W3 (Or.inl (List.mem_singleton.mpr rfl))) V3
  have K6 : ∀ h, Keep h1 h [ca] → Arv Z h ca kC .char (Int32.ofNat N) ((own_fill ws (y &&& 255) N 6).map Value.int) (.int 0) → Go p l e ({ frames := 5, cells := 3, slots := 36, locals := 69 } : Room) s m #[.ref wa, .int (Int32.ofNat N), .int (y &&& 255)] below meth c Z "com/example/llave/llave/policy/ObjectiveOfPinLaw" n0 (Bn s) (EnN s ({ frames := 5, cells := 3, slots := 36, locals := 69 } : Room) n0 (fun v h => ∃ a t kb, v = some (.ref a) ∧ Keep h0 h [] ∧ Str Z h a t kb (own_fill ws (y &&& 255) N 16))) h 1 16 87 #[.val (.ref wa), .val (.int (Int32.ofNat N)), .val (.int (y &&& 255)), .val (.ref ca)] [] := by
    intro h2 KK VV
    refine Go.iloadN C d3_87 rfl (pc' := 88) rfl ?_
    refine Go.bipush C d3_88 (v := 6) rfl (pc' := 90) rfl ?_
    refine Go.icmp_le C d3_90 (by decide) (pc1 := 104) (by decide) (pc2 := 93) rfl (fun hc => ?_) (fun hc => ?_)
    · exact K7 h2 KK (by rw [own_skip (i := 6) (j := 7) rfl (Nat.le_of_not_lt fun q => hc ((own_lt6 N hN).mpr q))]; exact VV)
    · have hi : 6 < N := (own_lt6 N hN).mp hc
      have O2 := O1.keep KK (allS nca all0)
      have S2 := S1.keep KK wn tn
      refine Go.aloadN C d3_93 rfl rfl (pc' := 94) rfl ?_
      refine Go.bipush C d3_94 (v := 6) rfl (pc' := 96) rfl ?_
      refine Go.aloadN C d3_96 rfl rfl (pc' := 97) rfl ?_
      refine Go.bipush C d3_97 (v := 6) rfl (pc' := 99) rfl ?_
      refine Go.iloadN C d3_99 rfl (pc' := 100) rfl ?_
      show Go p l e ({ frames := 5, cells := 3, slots := 36, locals := 69 } : Room) s m #[.ref wa, .int (Int32.ofNat N), .int (y &&& 255)] below meth c Z "com/example/llave/llave/policy/ObjectiveOfPinLaw" n0 (Bn s) (EnN s ({ frames := 5, cells := 3, slots := 36, locals := 69 } : Room) n0 (fun v h => ∃ a t kb, v = some (.ref a) ∧ Keep h0 h [] ∧ Str Z h a t kb (own_fill ws (y &&& 255) N 16))) h2 1 16 100 #[.val (.ref wa), .val (.int (Int32.ofNat N)), .val (.int (y &&& 255)), .val (.ref ca)] [(.int (y &&& 255)), (.int (Int32.ofNat 6)), (.ref wa), (.int (6 : Int32)), (.ref ca)]
      refine Go.callS C d3_100 (hw _ (List.mem_of_getElem? (i := 30) rfl)) (hw _ (List.mem_of_getElem? (i := 31) rfl)) (hw _ (List.mem_of_getElem? (i := 27) rfl)) (hw _ (List.mem_of_getElem? (i := 32) rfl)) (by decide) (argsL := [(.ref wa), (.int (Int32.ofNat 6)), (.int (y &&& 255))]) (rest := [(.int (6 : Int32)), (.ref ca)]) rfl (lenOf pd__Ljava_lang_String_IC_C rfl) rfl (W := 2) (Nat.le_of_ble_eq_true rfl) (Ct.pay (rm_at l Z a0 hw wa wt wk ws 6 y z fm h2 n0 S2 (by decide) hl St hz Fm rf O2) (hw _ (List.mem_of_getElem? (i := 32) rfl)) (hw _ (List.mem_of_getElem? (i := 27) rfl)) (by decide) (by decide)) (fun _ _ _ q => q.2) (by decide) (by decide) (fun _ _ _ _ _ q => q) (pc' := 103) rfl ?_
      rintro _ _ L1 ⟨⟨rfl, rfl⟩, -⟩
      show Go p l e ({ frames := 5, cells := 3, slots := 36, locals := 69 } : Room) s m #[.ref wa, .int (Int32.ofNat N), .int (y &&& 255)] below meth c Z "com/example/llave/llave/policy/ObjectiveOfPinLaw" n0 (Bn s) (EnN s ({ frames := 5, cells := 3, slots := 36, locals := 69 } : Room) n0 (fun v h => ∃ a t kb, v = some (.ref a) ∧ Keep h0 h [] ∧ Str Z h a t kb (own_fill ws (y &&& 255) N 16))) _ _ _ 103 #[.val (.ref wa), .val (.int (Int32.ofNat N)), .val (.int (y &&& 255)), .val (.ref ca)] [(.int (own_at ws (y &&& 255) 6)), (.int (6 : Int32)), (.ref ca)]
      refine Go.castoreV C d3_103 VV (by decide) hc 6 (by decide) (by rw [List.length_map, own_len]; exact hi) nca (fun _ _ _ q => q) (pc' := 104) rfl ?_
      intro h3 W3 V3
      rw [own_nr (own_atr S.2.2.2.2.1 y 6), own_set (i := 6) (j := 7) rfl hi] at V3
      exact K7 h3 (KK.wr W3 (Or.inl (List.mem_singleton.mpr rfl))) V3
  have K5 : ∀ h, Keep h1 h [ca] → Arv Z h ca kC .char (Int32.ofNat N) ((own_fill ws (y &&& 255) N 5).map Value.int) (.int 0) → Go p l e ({ frames := 5, cells := 3, slots := 36, locals := 69 } : Room) s m #[.ref wa, .int (Int32.ofNat N), .int (y &&& 255)] below meth c Z "com/example/llave/llave/policy/ObjectiveOfPinLaw" n0 (Bn s) (EnN s ({ frames := 5, cells := 3, slots := 36, locals := 69 } : Room) n0 (fun v h => ∃ a t kb, v = some (.ref a) ∧ Keep h0 h [] ∧ Str Z h a t kb (own_fill ws (y &&& 255) N 16))) h 1 16 73 #[.val (.ref wa), .val (.int (Int32.ofNat N)), .val (.int (y &&& 255)), .val (.ref ca)] [] := by
    intro h2 KK VV
    refine Go.iloadN C d3_73 rfl (pc' := 74) rfl ?_
    refine Go.iconst C d3_74 (v := 5) rfl (pc' := 75) rfl ?_
    refine Go.icmp_le C d3_75 (by decide) (pc1 := 87) (by decide) (pc2 := 78) rfl (fun hc => ?_) (fun hc => ?_)
    · exact K6 h2 KK (by rw [own_skip (i := 5) (j := 6) rfl (Nat.le_of_not_lt fun q => hc ((own_lt5 N hN).mpr q))]; exact VV)
    · have hi : 5 < N := (own_lt5 N hN).mp hc
      have O2 := O1.keep KK (allS nca all0)
      have S2 := S1.keep KK wn tn
      refine Go.aloadN C d3_78 rfl rfl (pc' := 79) rfl ?_
      refine Go.iconst C d3_79 (v := 5) rfl (pc' := 80) rfl ?_
      refine Go.aloadN C d3_80 rfl rfl (pc' := 81) rfl ?_
      refine Go.iconst C d3_81 (v := 5) rfl (pc' := 82) rfl ?_
      refine Go.iloadN C d3_82 rfl (pc' := 83) rfl ?_
      show Go p l e ({ frames := 5, cells := 3, slots := 36, locals := 69 } : Room) s m #[.ref wa, .int (Int32.ofNat N), .int (y &&& 255)] below meth c Z "com/example/llave/llave/policy/ObjectiveOfPinLaw" n0 (Bn s) (EnN s ({ frames := 5, cells := 3, slots := 36, locals := 69 } : Room) n0 (fun v h => ∃ a t kb, v = some (.ref a) ∧ Keep h0 h [] ∧ Str Z h a t kb (own_fill ws (y &&& 255) N 16))) h2 1 16 83 #[.val (.ref wa), .val (.int (Int32.ofNat N)), .val (.int (y &&& 255)), .val (.ref ca)] [(.int (y &&& 255)), (.int (Int32.ofNat 5)), (.ref wa), (.int (5 : Int32)), (.ref ca)]
      refine Go.callS C d3_83 (hw _ (List.mem_of_getElem? (i := 30) rfl)) (hw _ (List.mem_of_getElem? (i := 31) rfl)) (hw _ (List.mem_of_getElem? (i := 27) rfl)) (hw _ (List.mem_of_getElem? (i := 32) rfl)) (by decide) (argsL := [(.ref wa), (.int (Int32.ofNat 5)), (.int (y &&& 255))]) (rest := [(.int (5 : Int32)), (.ref ca)]) rfl (lenOf pd__Ljava_lang_String_IC_C rfl) rfl (W := 2) (Nat.le_of_ble_eq_true rfl) (Ct.pay (rm_at l Z a0 hw wa wt wk ws 5 y z fm h2 n0 S2 (by decide) hl St hz Fm rf O2) (hw _ (List.mem_of_getElem? (i := 32) rfl)) (hw _ (List.mem_of_getElem? (i := 27) rfl)) (by decide) (by decide)) (fun _ _ _ q => q.2) (by decide) (by decide) (fun _ _ _ _ _ q => q) (pc' := 86) rfl ?_
      rintro _ _ L1 ⟨⟨rfl, rfl⟩, -⟩
      show Go p l e ({ frames := 5, cells := 3, slots := 36, locals := 69 } : Room) s m #[.ref wa, .int (Int32.ofNat N), .int (y &&& 255)] below meth c Z "com/example/llave/llave/policy/ObjectiveOfPinLaw" n0 (Bn s) (EnN s ({ frames := 5, cells := 3, slots := 36, locals := 69 } : Room) n0 (fun v h => ∃ a t kb, v = some (.ref a) ∧ Keep h0 h [] ∧ Str Z h a t kb (own_fill ws (y &&& 255) N 16))) _ _ _ 86 #[.val (.ref wa), .val (.int (Int32.ofNat N)), .val (.int (y &&& 255)), .val (.ref ca)] [(.int (own_at ws (y &&& 255) 5)), (.int (5 : Int32)), (.ref ca)]
      refine Go.castoreV C d3_86 VV (by decide) hc 5 (by decide) (by rw [List.length_map, own_len]; exact hi) nca (fun _ _ _ q => q) (pc' := 87) rfl ?_
      intro h3 W3 V3
      rw [own_nr (own_atr S.2.2.2.2.1 y 5), own_set (i := 5) (j := 6) rfl hi] at V3
      exact K6 h3 (KK.wr W3 (Or.inl (List.mem_singleton.mpr rfl))) V3
  have K4 : ∀ h, Keep h1 h [ca] → Arv Z h ca kC .char (Int32.ofNat N) ((own_fill ws (y &&& 255) N 4).map Value.int) (.int 0) → Go p l e ({ frames := 5, cells := 3, slots := 36, locals := 69 } : Room) s m #[.ref wa, .int (Int32.ofNat N), .int (y &&& 255)] below meth c Z "com/example/llave/llave/policy/ObjectiveOfPinLaw" n0 (Bn s) (EnN s ({ frames := 5, cells := 3, slots := 36, locals := 69 } : Room) n0 (fun v h => ∃ a t kb, v = some (.ref a) ∧ Keep h0 h [] ∧ Str Z h a t kb (own_fill ws (y &&& 255) N 16))) h 1 16 59 #[.val (.ref wa), .val (.int (Int32.ofNat N)), .val (.int (y &&& 255)), .val (.ref ca)] [] := by
    intro h2 KK VV
    refine Go.iloadN C d3_59 rfl (pc' := 60) rfl ?_
    refine Go.iconst C d3_60 (v := 4) rfl (pc' := 61) rfl ?_
    refine Go.icmp_le C d3_61 (by decide) (pc1 := 73) (by decide) (pc2 := 64) rfl (fun hc => ?_) (fun hc => ?_)
    · exact K5 h2 KK (by rw [own_skip (i := 4) (j := 5) rfl (Nat.le_of_not_lt fun q => hc ((own_lt4 N hN).mpr q))]; exact VV)
    · have hi : 4 < N := (own_lt4 N hN).mp hc
      have O2 := O1.keep KK (allS nca all0)
      have S2 := S1.keep KK wn tn
      refine Go.aloadN C d3_64 rfl rfl (pc' := 65) rfl ?_
      refine Go.iconst C d3_65 (v := 4) rfl (pc' := 66) rfl ?_
      refine Go.aloadN C d3_66 rfl rfl (pc' := 67) rfl ?_
      refine Go.iconst C d3_67 (v := 4) rfl (pc' := 68) rfl ?_
      refine Go.iloadN C d3_68 rfl (pc' := 69) rfl ?_
      show Go p l e ({ frames := 5, cells := 3, slots := 36, locals := 69 } : Room) s m #[.ref wa, .int (Int32.ofNat N), .int (y &&& 255)] below meth c Z "com/example/llave/llave/policy/ObjectiveOfPinLaw" n0 (Bn s) (EnN s ({ frames := 5, cells := 3, slots := 36, locals := 69 } : Room) n0 (fun v h => ∃ a t kb, v = some (.ref a) ∧ Keep h0 h [] ∧ Str Z h a t kb (own_fill ws (y &&& 255) N 16))) h2 1 16 69 #[.val (.ref wa), .val (.int (Int32.ofNat N)), .val (.int (y &&& 255)), .val (.ref ca)] [(.int (y &&& 255)), (.int (Int32.ofNat 4)), (.ref wa), (.int (4 : Int32)), (.ref ca)]
      refine Go.callS C d3_69 (hw _ (List.mem_of_getElem? (i := 30) rfl)) (hw _ (List.mem_of_getElem? (i := 31) rfl)) (hw _ (List.mem_of_getElem? (i := 27) rfl)) (hw _ (List.mem_of_getElem? (i := 32) rfl)) (by decide) (argsL := [(.ref wa), (.int (Int32.ofNat 4)), (.int (y &&& 255))]) (rest := [(.int (4 : Int32)), (.ref ca)]) rfl (lenOf pd__Ljava_lang_String_IC_C rfl) rfl (W := 2) (Nat.le_of_ble_eq_true rfl) (Ct.pay (rm_at l Z a0 hw wa wt wk ws 4 y z fm h2 n0 S2 (by decide) hl St hz Fm rf O2) (hw _ (List.mem_of_getElem? (i := 32) rfl)) (hw _ (List.mem_of_getElem? (i := 27) rfl)) (by decide) (by decide)) (fun _ _ _ q => q.2) (by decide) (by decide) (fun _ _ _ _ _ q => q) (pc' := 72) rfl ?_
      rintro _ _ L1 ⟨⟨rfl, rfl⟩, -⟩
      show Go p l e ({ frames := 5, cells := 3, slots := 36, locals := 69 } : Room) s m #[.ref wa, .int (Int32.ofNat N), .int (y &&& 255)] below meth c Z "com/example/llave/llave/policy/ObjectiveOfPinLaw" n0 (Bn s) (EnN s ({ frames := 5, cells := 3, slots := 36, locals := 69 } : Room) n0 (fun v h => ∃ a t kb, v = some (.ref a) ∧ Keep h0 h [] ∧ Str Z h a t kb (own_fill ws (y &&& 255) N 16))) _ _ _ 72 #[.val (.ref wa), .val (.int (Int32.ofNat N)), .val (.int (y &&& 255)), .val (.ref ca)] [(.int (own_at ws (y &&& 255) 4)), (.int (4 : Int32)), (.ref ca)]
      refine Go.castoreV C d3_72 VV (by decide) hc 4 (by decide) (by rw [List.length_map, own_len]; exact hi) nca (fun _ _ _ q => q) (pc' := 73) rfl ?_
      intro h3 W3 V3
      rw [own_nr (own_atr S.2.2.2.2.1 y 4), own_set (i := 4) (j := 5) rfl hi] at V3
      exact K5 h3 (KK.wr W3 (Or.inl (List.mem_singleton.mpr rfl))) V3
  have K3 : ∀ h, Keep h1 h [ca] → Arv Z h ca kC .char (Int32.ofNat N) ((own_fill ws (y &&& 255) N 3).map Value.int) (.int 0) → Go p l e ({ frames := 5, cells := 3, slots := 36, locals := 69 } : Room) s m #[.ref wa, .int (Int32.ofNat N), .int (y &&& 255)] below meth c Z "com/example/llave/llave/policy/ObjectiveOfPinLaw" n0 (Bn s) (EnN s ({ frames := 5, cells := 3, slots := 36, locals := 69 } : Room) n0 (fun v h => ∃ a t kb, v = some (.ref a) ∧ Keep h0 h [] ∧ Str Z h a t kb (own_fill ws (y &&& 255) N 16))) h 1 16 45 #[.val (.ref wa), .val (.int (Int32.ofNat N)), .val (.int (y &&& 255)), .val (.ref ca)] [] := by
    intro h2 KK VV
    refine Go.iloadN C d3_45 rfl (pc' := 46) rfl ?_
    refine Go.iconst C d3_46 (v := 3) rfl (pc' := 47) rfl ?_
    refine Go.icmp_le C d3_47 (by decide) (pc1 := 59) (by decide) (pc2 := 50) rfl (fun hc => ?_) (fun hc => ?_)
    · exact K4 h2 KK (by rw [own_skip (i := 3) (j := 4) rfl (Nat.le_of_not_lt fun q => hc ((own_lt3 N hN).mpr q))]; exact VV)
    · have hi : 3 < N := (own_lt3 N hN).mp hc
      have O2 := O1.keep KK (allS nca all0)
      have S2 := S1.keep KK wn tn
      refine Go.aloadN C d3_50 rfl rfl (pc' := 51) rfl ?_
      refine Go.iconst C d3_51 (v := 3) rfl (pc' := 52) rfl ?_
      refine Go.aloadN C d3_52 rfl rfl (pc' := 53) rfl ?_
      refine Go.iconst C d3_53 (v := 3) rfl (pc' := 54) rfl ?_
      refine Go.iloadN C d3_54 rfl (pc' := 55) rfl ?_
      show Go p l e ({ frames := 5, cells := 3, slots := 36, locals := 69 } : Room) s m #[.ref wa, .int (Int32.ofNat N), .int (y &&& 255)] below meth c Z "com/example/llave/llave/policy/ObjectiveOfPinLaw" n0 (Bn s) (EnN s ({ frames := 5, cells := 3, slots := 36, locals := 69 } : Room) n0 (fun v h => ∃ a t kb, v = some (.ref a) ∧ Keep h0 h [] ∧ Str Z h a t kb (own_fill ws (y &&& 255) N 16))) h2 1 16 55 #[.val (.ref wa), .val (.int (Int32.ofNat N)), .val (.int (y &&& 255)), .val (.ref ca)] [(.int (y &&& 255)), (.int (Int32.ofNat 3)), (.ref wa), (.int (3 : Int32)), (.ref ca)]
      refine Go.callS C d3_55 (hw _ (List.mem_of_getElem? (i := 30) rfl)) (hw _ (List.mem_of_getElem? (i := 31) rfl)) (hw _ (List.mem_of_getElem? (i := 27) rfl)) (hw _ (List.mem_of_getElem? (i := 32) rfl)) (by decide) (argsL := [(.ref wa), (.int (Int32.ofNat 3)), (.int (y &&& 255))]) (rest := [(.int (3 : Int32)), (.ref ca)]) rfl (lenOf pd__Ljava_lang_String_IC_C rfl) rfl (W := 2) (Nat.le_of_ble_eq_true rfl) (Ct.pay (rm_at l Z a0 hw wa wt wk ws 3 y z fm h2 n0 S2 (by decide) hl St hz Fm rf O2) (hw _ (List.mem_of_getElem? (i := 32) rfl)) (hw _ (List.mem_of_getElem? (i := 27) rfl)) (by decide) (by decide)) (fun _ _ _ q => q.2) (by decide) (by decide) (fun _ _ _ _ _ q => q) (pc' := 58) rfl ?_
      rintro _ _ L1 ⟨⟨rfl, rfl⟩, -⟩
      show Go p l e ({ frames := 5, cells := 3, slots := 36, locals := 69 } : Room) s m #[.ref wa, .int (Int32.ofNat N), .int (y &&& 255)] below meth c Z "com/example/llave/llave/policy/ObjectiveOfPinLaw" n0 (Bn s) (EnN s ({ frames := 5, cells := 3, slots := 36, locals := 69 } : Room) n0 (fun v h => ∃ a t kb, v = some (.ref a) ∧ Keep h0 h [] ∧ Str Z h a t kb (own_fill ws (y &&& 255) N 16))) _ _ _ 58 #[.val (.ref wa), .val (.int (Int32.ofNat N)), .val (.int (y &&& 255)), .val (.ref ca)] [(.int (own_at ws (y &&& 255) 3)), (.int (3 : Int32)), (.ref ca)]
      refine Go.castoreV C d3_58 VV (by decide) hc 3 (by decide) (by rw [List.length_map, own_len]; exact hi) nca (fun _ _ _ q => q) (pc' := 59) rfl ?_
      intro h3 W3 V3
      rw [own_nr (own_atr S.2.2.2.2.1 y 3), own_set (i := 3) (j := 4) rfl hi] at V3
      exact K4 h3 (KK.wr W3 (Or.inl (List.mem_singleton.mpr rfl))) V3
  have K2 : ∀ h, Keep h1 h [ca] → Arv Z h ca kC .char (Int32.ofNat N) ((own_fill ws (y &&& 255) N 2).map Value.int) (.int 0) → Go p l e ({ frames := 5, cells := 3, slots := 36, locals := 69 } : Room) s m #[.ref wa, .int (Int32.ofNat N), .int (y &&& 255)] below meth c Z "com/example/llave/llave/policy/ObjectiveOfPinLaw" n0 (Bn s) (EnN s ({ frames := 5, cells := 3, slots := 36, locals := 69 } : Room) n0 (fun v h => ∃ a t kb, v = some (.ref a) ∧ Keep h0 h [] ∧ Str Z h a t kb (own_fill ws (y &&& 255) N 16))) h 1 16 31 #[.val (.ref wa), .val (.int (Int32.ofNat N)), .val (.int (y &&& 255)), .val (.ref ca)] [] := by
    intro h2 KK VV
    refine Go.iloadN C d3_31 rfl (pc' := 32) rfl ?_
    refine Go.iconst C d3_32 (v := 2) rfl (pc' := 33) rfl ?_
    refine Go.icmp_le C d3_33 (by decide) (pc1 := 45) (by decide) (pc2 := 36) rfl (fun hc => ?_) (fun hc => ?_)
    · exact K3 h2 KK (by rw [own_skip (i := 2) (j := 3) rfl (Nat.le_of_not_lt fun q => hc ((own_lt2 N hN).mpr q))]; exact VV)
    · have hi : 2 < N := (own_lt2 N hN).mp hc
      have O2 := O1.keep KK (allS nca all0)
      have S2 := S1.keep KK wn tn
      refine Go.aloadN C d3_36 rfl rfl (pc' := 37) rfl ?_
      refine Go.iconst C d3_37 (v := 2) rfl (pc' := 38) rfl ?_
      refine Go.aloadN C d3_38 rfl rfl (pc' := 39) rfl ?_
      refine Go.iconst C d3_39 (v := 2) rfl (pc' := 40) rfl ?_
      refine Go.iloadN C d3_40 rfl (pc' := 41) rfl ?_
      show Go p l e ({ frames := 5, cells := 3, slots := 36, locals := 69 } : Room) s m #[.ref wa, .int (Int32.ofNat N), .int (y &&& 255)] below meth c Z "com/example/llave/llave/policy/ObjectiveOfPinLaw" n0 (Bn s) (EnN s ({ frames := 5, cells := 3, slots := 36, locals := 69 } : Room) n0 (fun v h => ∃ a t kb, v = some (.ref a) ∧ Keep h0 h [] ∧ Str Z h a t kb (own_fill ws (y &&& 255) N 16))) h2 1 16 41 #[.val (.ref wa), .val (.int (Int32.ofNat N)), .val (.int (y &&& 255)), .val (.ref ca)] [(.int (y &&& 255)), (.int (Int32.ofNat 2)), (.ref wa), (.int (2 : Int32)), (.ref ca)]
      refine Go.callS C d3_41 (hw _ (List.mem_of_getElem? (i := 30) rfl)) (hw _ (List.mem_of_getElem? (i := 31) rfl)) (hw _ (List.mem_of_getElem? (i := 27) rfl)) (hw _ (List.mem_of_getElem? (i := 32) rfl)) (by decide) (argsL := [(.ref wa), (.int (Int32.ofNat 2)), (.int (y &&& 255))]) (rest := [(.int (2 : Int32)), (.ref ca)]) rfl (lenOf pd__Ljava_lang_String_IC_C rfl) rfl (W := 2) (Nat.le_of_ble_eq_true rfl) (Ct.pay (rm_at l Z a0 hw wa wt wk ws 2 y z fm h2 n0 S2 (by decide) hl St hz Fm rf O2) (hw _ (List.mem_of_getElem? (i := 32) rfl)) (hw _ (List.mem_of_getElem? (i := 27) rfl)) (by decide) (by decide)) (fun _ _ _ q => q.2) (by decide) (by decide) (fun _ _ _ _ _ q => q) (pc' := 44) rfl ?_
      rintro _ _ L1 ⟨⟨rfl, rfl⟩, -⟩
      show Go p l e ({ frames := 5, cells := 3, slots := 36, locals := 69 } : Room) s m #[.ref wa, .int (Int32.ofNat N), .int (y &&& 255)] below meth c Z "com/example/llave/llave/policy/ObjectiveOfPinLaw" n0 (Bn s) (EnN s ({ frames := 5, cells := 3, slots := 36, locals := 69 } : Room) n0 (fun v h => ∃ a t kb, v = some (.ref a) ∧ Keep h0 h [] ∧ Str Z h a t kb (own_fill ws (y &&& 255) N 16))) _ _ _ 44 #[.val (.ref wa), .val (.int (Int32.ofNat N)), .val (.int (y &&& 255)), .val (.ref ca)] [(.int (own_at ws (y &&& 255) 2)), (.int (2 : Int32)), (.ref ca)]
      refine Go.castoreV C d3_44 VV (by decide) hc 2 (by decide) (by rw [List.length_map, own_len]; exact hi) nca (fun _ _ _ q => q) (pc' := 45) rfl ?_
      intro h3 W3 V3
      rw [own_nr (own_atr S.2.2.2.2.1 y 2), own_set (i := 2) (j := 3) rfl hi] at V3
      exact K3 h3 (KK.wr W3 (Or.inl (List.mem_singleton.mpr rfl))) V3
  have K1 : ∀ h, Keep h1 h [ca] → Arv Z h ca kC .char (Int32.ofNat N) ((own_fill ws (y &&& 255) N 1).map Value.int) (.int 0) → Go p l e ({ frames := 5, cells := 3, slots := 36, locals := 69 } : Room) s m #[.ref wa, .int (Int32.ofNat N), .int (y &&& 255)] below meth c Z "com/example/llave/llave/policy/ObjectiveOfPinLaw" n0 (Bn s) (EnN s ({ frames := 5, cells := 3, slots := 36, locals := 69 } : Room) n0 (fun v h => ∃ a t kb, v = some (.ref a) ∧ Keep h0 h [] ∧ Str Z h a t kb (own_fill ws (y &&& 255) N 16))) h 1 16 17 #[.val (.ref wa), .val (.int (Int32.ofNat N)), .val (.int (y &&& 255)), .val (.ref ca)] [] := by
    intro h2 KK VV
    refine Go.iloadN C d3_17 rfl (pc' := 18) rfl ?_
    refine Go.iconst C d3_18 (v := 1) rfl (pc' := 19) rfl ?_
    refine Go.icmp_le C d3_19 (by decide) (pc1 := 31) (by decide) (pc2 := 22) rfl (fun hc => ?_) (fun hc => ?_)
    · exact K2 h2 KK (by rw [own_skip (i := 1) (j := 2) rfl (Nat.le_of_not_lt fun q => hc ((own_lt1 N hN).mpr q))]; exact VV)
    · have hi : 1 < N := (own_lt1 N hN).mp hc
      have O2 := O1.keep KK (allS nca all0)
      have S2 := S1.keep KK wn tn
      refine Go.aloadN C d3_22 rfl rfl (pc' := 23) rfl ?_
      refine Go.iconst C d3_23 (v := 1) rfl (pc' := 24) rfl ?_
      refine Go.aloadN C d3_24 rfl rfl (pc' := 25) rfl ?_
      refine Go.iconst C d3_25 (v := 1) rfl (pc' := 26) rfl ?_
      refine Go.iloadN C d3_26 rfl (pc' := 27) rfl ?_
      show Go p l e ({ frames := 5, cells := 3, slots := 36, locals := 69 } : Room) s m #[.ref wa, .int (Int32.ofNat N), .int (y &&& 255)] below meth c Z "com/example/llave/llave/policy/ObjectiveOfPinLaw" n0 (Bn s) (EnN s ({ frames := 5, cells := 3, slots := 36, locals := 69 } : Room) n0 (fun v h => ∃ a t kb, v = some (.ref a) ∧ Keep h0 h [] ∧ Str Z h a t kb (own_fill ws (y &&& 255) N 16))) h2 1 16 27 #[.val (.ref wa), .val (.int (Int32.ofNat N)), .val (.int (y &&& 255)), .val (.ref ca)] [(.int (y &&& 255)), (.int (Int32.ofNat 1)), (.ref wa), (.int (1 : Int32)), (.ref ca)]
      refine Go.callS C d3_27 (hw _ (List.mem_of_getElem? (i := 30) rfl)) (hw _ (List.mem_of_getElem? (i := 31) rfl)) (hw _ (List.mem_of_getElem? (i := 27) rfl)) (hw _ (List.mem_of_getElem? (i := 32) rfl)) (by decide) (argsL := [(.ref wa), (.int (Int32.ofNat 1)), (.int (y &&& 255))]) (rest := [(.int (1 : Int32)), (.ref ca)]) rfl (lenOf pd__Ljava_lang_String_IC_C rfl) rfl (W := 2) (Nat.le_of_ble_eq_true rfl) (Ct.pay (rm_at l Z a0 hw wa wt wk ws 1 y z fm h2 n0 S2 (by decide) hl St hz Fm rf O2) (hw _ (List.mem_of_getElem? (i := 32) rfl)) (hw _ (List.mem_of_getElem? (i := 27) rfl)) (by decide) (by decide)) (fun _ _ _ q => q.2) (by decide) (by decide) (fun _ _ _ _ _ q => q) (pc' := 30) rfl ?_
      rintro _ _ L1 ⟨⟨rfl, rfl⟩, -⟩
      show Go p l e ({ frames := 5, cells := 3, slots := 36, locals := 69 } : Room) s m #[.ref wa, .int (Int32.ofNat N), .int (y &&& 255)] below meth c Z "com/example/llave/llave/policy/ObjectiveOfPinLaw" n0 (Bn s) (EnN s ({ frames := 5, cells := 3, slots := 36, locals := 69 } : Room) n0 (fun v h => ∃ a t kb, v = some (.ref a) ∧ Keep h0 h [] ∧ Str Z h a t kb (own_fill ws (y &&& 255) N 16))) _ _ _ 30 #[.val (.ref wa), .val (.int (Int32.ofNat N)), .val (.int (y &&& 255)), .val (.ref ca)] [(.int (own_at ws (y &&& 255) 1)), (.int (1 : Int32)), (.ref ca)]
      refine Go.castoreV C d3_30 VV (by decide) hc 1 (by decide) (by rw [List.length_map, own_len]; exact hi) nca (fun _ _ _ q => q) (pc' := 31) rfl ?_
      intro h3 W3 V3
      rw [own_nr (own_atr S.2.2.2.2.1 y 1), own_set (i := 1) (j := 2) rfl hi] at V3
      exact K2 h3 (KK.wr W3 (Or.inl (List.mem_singleton.mpr rfl))) V3
  have K0 : ∀ h, Keep h1 h [ca] → Arv Z h ca kC .char (Int32.ofNat N) ((own_fill ws (y &&& 255) N 0).map Value.int) (.int 0) → Go p l e ({ frames := 5, cells := 3, slots := 36, locals := 69 } : Room) s m #[.ref wa, .int (Int32.ofNat N), .int (y &&& 255)] below meth c Z "com/example/llave/llave/policy/ObjectiveOfPinLaw" n0 (Bn s) (EnN s ({ frames := 5, cells := 3, slots := 36, locals := 69 } : Room) n0 (fun v h => ∃ a t kb, v = some (.ref a) ∧ Keep h0 h [] ∧ Str Z h a t kb (own_fill ws (y &&& 255) N 16))) h 1 16 4 #[.val (.ref wa), .val (.int (Int32.ofNat N)), .val (.int (y &&& 255)), .val (.ref ca)] [] := by
    intro h2 KK VV
    refine Go.iloadN C d3_4 rfl (pc' := 5) rfl ?_
    refine Go.if_le C d3_5 (by decide) (pc1 := 17) (by decide) (pc2 := 8) rfl (fun hc => ?_) (fun hc => ?_)
    · exact K1 h2 KK (by rw [own_skip (i := 0) (j := 1) rfl (Nat.le_of_not_lt fun q => hc ((own_lt0 N hN).mpr q))]; exact VV)
    · have hi : 0 < N := (own_lt0 N hN).mp hc
      have O2 := O1.keep KK (allS nca all0)
      have S2 := S1.keep KK wn tn
      refine Go.aloadN C d3_8 rfl rfl (pc' := 9) rfl ?_
      refine Go.iconst C d3_9 (v := 0) rfl (pc' := 10) rfl ?_
      refine Go.aloadN C d3_10 rfl rfl (pc' := 11) rfl ?_
      refine Go.iconst C d3_11 (v := 0) rfl (pc' := 12) rfl ?_
      refine Go.iloadN C d3_12 rfl (pc' := 13) rfl ?_
      show Go p l e ({ frames := 5, cells := 3, slots := 36, locals := 69 } : Room) s m #[.ref wa, .int (Int32.ofNat N), .int (y &&& 255)] below meth c Z "com/example/llave/llave/policy/ObjectiveOfPinLaw" n0 (Bn s) (EnN s ({ frames := 5, cells := 3, slots := 36, locals := 69 } : Room) n0 (fun v h => ∃ a t kb, v = some (.ref a) ∧ Keep h0 h [] ∧ Str Z h a t kb (own_fill ws (y &&& 255) N 16))) h2 1 16 13 #[.val (.ref wa), .val (.int (Int32.ofNat N)), .val (.int (y &&& 255)), .val (.ref ca)] [(.int (y &&& 255)), (.int (Int32.ofNat 0)), (.ref wa), (.int (0 : Int32)), (.ref ca)]
      refine Go.callS C d3_13 (hw _ (List.mem_of_getElem? (i := 30) rfl)) (hw _ (List.mem_of_getElem? (i := 31) rfl)) (hw _ (List.mem_of_getElem? (i := 27) rfl)) (hw _ (List.mem_of_getElem? (i := 32) rfl)) (by decide) (argsL := [(.ref wa), (.int (Int32.ofNat 0)), (.int (y &&& 255))]) (rest := [(.int (0 : Int32)), (.ref ca)]) rfl (lenOf pd__Ljava_lang_String_IC_C rfl) rfl (W := 2) (Nat.le_of_ble_eq_true rfl) (Ct.pay (rm_at l Z a0 hw wa wt wk ws 0 y z fm h2 n0 S2 (by decide) hl St hz Fm rf O2) (hw _ (List.mem_of_getElem? (i := 32) rfl)) (hw _ (List.mem_of_getElem? (i := 27) rfl)) (by decide) (by decide)) (fun _ _ _ q => q.2) (by decide) (by decide) (fun _ _ _ _ _ q => q) (pc' := 16) rfl ?_
      rintro _ _ L1 ⟨⟨rfl, rfl⟩, -⟩
      show Go p l e ({ frames := 5, cells := 3, slots := 36, locals := 69 } : Room) s m #[.ref wa, .int (Int32.ofNat N), .int (y &&& 255)] below meth c Z "com/example/llave/llave/policy/ObjectiveOfPinLaw" n0 (Bn s) (EnN s ({ frames := 5, cells := 3, slots := 36, locals := 69 } : Room) n0 (fun v h => ∃ a t kb, v = some (.ref a) ∧ Keep h0 h [] ∧ Str Z h a t kb (own_fill ws (y &&& 255) N 16))) _ _ _ 16 #[.val (.ref wa), .val (.int (Int32.ofNat N)), .val (.int (y &&& 255)), .val (.ref ca)] [(.int (own_at ws (y &&& 255) 0)), (.int (0 : Int32)), (.ref ca)]
      refine Go.castoreV C d3_16 VV (by decide) hc 0 (by decide) (by rw [List.length_map, own_len]; exact hi) nca (fun _ _ _ q => q) (pc' := 17) rfl ?_
      intro h3 W3 V3
      rw [own_nr (own_atr S.2.2.2.2.1 y 0), own_set (i := 0) (j := 1) rfl hi] at V3
      exact K1 h3 (KK.wr W3 (Or.inl (List.mem_singleton.mpr rfl))) V3
  exact K0 h1 (Keep.refl _ _) V1
set_option maxRecDepth 65536 in
set_option maxHeartbeats 40000000 in
theorem rm_mutate (l : Launch) (Z : State) (a0 : Array Value) (hw : ∀ d ∈ tables_1, d.before a0 Z = true) (wa wt : Addr) (wk : ClassId) (ws : List Int32) (N P : Nat) (y z : Int32) (fm : Value) (h0 : Heap) (n0 : Nat) (Z0 : n0 ≤ h0.size) (S : Str Z h0 wa wt wk ws) (hN0 : 0 < N) (hN : N < 17) (hP : P < N) (hl : ws.length ≤ 16) (St : Sta Z Z.heap "java/lang/String" "COMPACT_STRINGS" "Z" (.int z)) (hz : ¬ z = 0) (Fm : Sta Z Z.heap "jdk/internal/util/Preconditions" "SIOOBE_FORMATTER" "Ljava/util/function/BiFunction;" fm) (rf : fm.isRef = true) (O0 : Old Z n0 h0) :
    Ct l Z (⟨"com/example/llave/llave/policy/ObjectiveOfPinLaw", "mutate", "(Ljava/lang/String;IIC)Ljava/lang/String;"⟩ : MethodName) method_4_code 5 (some (.object "java/lang/String")) [] ({ frames := 5, cells := 3, slots := 36, locals := 69 } : Room) #[.ref wa, .int (Int32.ofNat N), .int (Int32.ofNat P), .int (y &&& 255)] h0 n0 (fun v h => ∃ a t kb, v = some (.ref a) ∧ Keep h0 h [] ∧ Str Z h a t kb ((own_fill ws (y &&& 255) N 16).set P (y &&& 255))) := by
  refine Ct.of (L0 := #[.val (.ref wa), .val (.int (Int32.ofNat N)), .val (.int (Int32.ofNat P)), .val (.int (y &&& 255)), .unset]) (plainFor_of_name pn_com_example_llave_llave_policy_ObjectiveOfPinLaw) (fun m => by first | (simp [entryFrame, mkF, argsToLocals, Value.category]; done) | rfl) ?_
  intro p e s m below meth c C hnm
  refine Go.iloadN C d22_0 rfl (pc' := 1) rfl ?_
  refine Go.newPV C bnE d22_1 (hw _ (List.mem_of_getElem? (i := 29) rfl)) (own_pos N hN) (cap := 16) (by rw [own_clamp N hN]; omega) (by decide) (by decide) (by decide) (pc' := 3) rfl (dv := .int 0) rfl ?_
  intro h1 kC E1 V1
  obtain ⟨ca, e_ca⟩ : ∃ a, a = h0.size := ⟨_, rfl⟩
  rw [← e_ca] at V1 ⊢
  have nca : n0 ≤ ca := e_ca ▸ Z0
  show Go p l e ({ frames := 5, cells := 3, slots := 36, locals := 69 } : Room) s m #[.ref wa, .int (Int32.ofNat N), .int (Int32.ofNat P), .int (y &&& 255)] below meth c Z "com/example/llave/llave/policy/ObjectiveOfPinLaw" n0 (Bn s) (EnN s ({ frames := 5, cells := 3, slots := 36, locals := 69 } : Room) n0 (fun v h => ∃ a t kb, v = some (.ref a) ∧ Keep h0 h [] ∧ Str Z h a t kb ((own_fill ws (y &&& 255) N 16).set P (y &&& 255)))) _ _ _ 3 #[.val (.ref wa), .val (.int (Int32.ofNat N)), .val (.int (Int32.ofNat P)), .val (.int (y &&& 255)), .unset] [(.ref ca)]
  have V1 : Arv Z h1 ca kC .char (Int32.ofNat N) ((own_fill ws (y &&& 255) N 0).map Value.int) (.int 0) := V1.pad (own_pad0 ws _ N)
  have O1 := O0.ext E1
  have S1 := S.ext E1
  have wn : wa ∉ [ca] := ninS (Nat.ne_of_lt (e_ca ▸ S.1.lt)) nin0
  have tn : wt ∉ [ca] := ninS (Nat.ne_of_lt (e_ca ▸ S.2.2.2.1.lt)) nin0
  refine Go.astore C d22_3 rfl (L' := #[.val (.ref wa), .val (.int (Int32.ofNat N)), .val (.int (Int32.ofNat P)), .val (.int (y &&& 255)), .val (.ref ca)]) rfl (pc' := 5) rfl ?_
  have K16 : ∀ h, Keep h1 h [ca] → Arv Z h ca kC .char (Int32.ofNat N) ((own_fill ws (y &&& 255) N 16).map Value.int) (.int 0) → Go p l e ({ frames := 5, cells := 3, slots := 36, locals := 69 } : Room) s m #[.ref wa, .int (Int32.ofNat N), .int (Int32.ofNat P), .int (y &&& 255)] below meth c Z "com/example/llave/llave/policy/ObjectiveOfPinLaw" n0 (Bn s) (EnN s ({ frames := 5, cells := 3, slots := 36, locals := 69 } : Room) n0 (fun v h => ∃ a t kb, v = some (.ref a) ∧ Keep h0 h [] ∧ Str Z h a t kb ((own_fill ws (y &&& 255) N 16).set P (y &&& 255)))) h 1 16 274 #[.val (.ref wa), .val (.int (Int32.ofNat N)), .val (.int (Int32.ofNat P)), .val (.int (y &&& 255)), .val (.ref ca)] [] := by
    intro h2 K2 V2
    have O2 := O1.keep K2 (allS nca all0)
    have Z2 : n0 ≤ h2.size := Nat.le_trans Z0 (Nat.le_trans E1.1 K2.1)
    have hcs := own_rng ws y N 16 S.2.2.2.2.1
    have hlen : (own_fill ws (y &&& 255) N 16).length = N := own_len ..  
    refine Go.aload C d22_274 rfl rfl (pc' := 276) rfl ?_
    refine Go.iloadN C d22_276 rfl (pc' := 277) rfl ?_
    refine Go.iloadN C d22_277 rfl (pc' := 278) rfl ?_
    refine Go.castoreV C d22_278 V2 (own_pos P (Nat.lt_trans hP hN)) ((own_ltNN P (Nat.lt_of_lt_of_le hP (Nat.le_of_lt_succ hN)) N hN).mpr hP) P (own_clamp P (Nat.lt_trans hP hN)) (by rw [List.length_map, hlen]; exact hP) nca (fun _ _ _ q => q) (pc' := 279) rfl ?_
    intro h3 W3 V3
    rw [own_nc, ← List.map_set] at V3
    have O3 := O2.wr W3 nca
    have K3 := K2.wr W3 (Or.inl (List.mem_singleton.mpr rfl))
    have Z3 : n0 ≤ h3.size := Nat.le_trans Z0 (Nat.le_trans E1.1 K3.1)
    have hcs := own_rset P y hcs
    have hlen : ((own_fill ws (y &&& 255) N 16).set P (y &&& 255)).length = N := by rw [List.length_set]; exact hlen
    refine Go.newO C bnE d22_279 (hw _ (List.mem_of_getElem? (i := 55) rfl)) (hw _ (List.mem_of_getElem? (i := 2) rfl)) (hw _ (List.mem_of_getElem? (i := 1) rfl)) (by decide) (by decide) (pc' := 282) rfl ?_
    intro h5 E5 A5 D5 U5
    obtain ⟨sa, e_sa⟩ : ∃ a, a = h3.size := ⟨_, rfl⟩
    rw [← e_sa] at A5 D5 U5 ⊢
    show Go p l e ({ frames := 5, cells := 3, slots := 36, locals := 69 } : Room) s m #[.ref wa, .int (Int32.ofNat N), .int (Int32.ofNat P), .int (y &&& 255)] below meth c Z "com/example/llave/llave/policy/ObjectiveOfPinLaw" n0 (Bn s) (EnN s ({ frames := 5, cells := 3, slots := 36, locals := 69 } : Room) n0 (fun v h => ∃ a t kb, v = some (.ref a) ∧ Keep h0 h [] ∧ Str Z h a t kb ((own_fill ws (y &&& 255) N 16).set P (y &&& 255)))) _ _ _ 282 #[.val (.ref wa), .val (.int (Int32.ofNat N)), .val (.int (Int32.ofNat P)), .val (.int (y &&& 255)), .val (.ref ca)] [(.ref sa)]
    have nsa : n0 ≤ sa := e_sa ▸ Z3
    have Z5 : n0 ≤ h5.size := Nat.le_trans Z3 E5.1
    have O5 := O3.ext E5
    have V5 := V3.ext E5
    have Fc5 := D5 (Or.inr (hw _ (List.mem_of_getElem? (i := 5) rfl))) (ty := .byte) (by decide)
    have Fv5 := D5 (Or.inr (hw _ (List.mem_of_getElem? (i := 4) rfl))) (ty := (.array .byte)) (by decide)
    refine Go.dup C d22_282 rfl (pc' := 283) rfl ?_
    refine Go.aload C d22_283 rfl rfl (pc' := 285) rfl ?_
    have V5' : Arv Z h5 ca kC .char (Int32.ofNat ((own_fill ws (y &&& 255) N 16).set P (y &&& 255)).length) (((own_fill ws (y &&& 255) N 16).set P (y &&& 255)).map Value.int) (.int 0) := by rw [hlen]; exact V5
    refine Go.callN C d22_285 rfl (hw _ (List.mem_of_getElem? (i := 56) rfl)) (hw _ (List.mem_of_getElem? (i := 57) rfl)) (hw _ (List.mem_of_getElem? (i := 58) rfl)) (by decide) (argsL := [(.ref ca)]) (rest := [(.ref sa)]) rfl (lenOf pd___C_V rfl) rfl (W := 1) (Nat.le_of_ble_eq_true rfl) (own_newP hw nsa Z5 A5 Fv5 Fc5 V5' (St.ext O5.2) hz (by rw [hlen]; exact hN0) (by rw [hlen]; omega) hcs (by decide) (by decide)) (fun _ _ _ q => q.2) (by decide) (by rw [hlen]; show 20 + N ≤ 36; omega) (fun _ _ _ _ _ q => q) (pc' := 288) rfl ?_
    rintro _ h6 L6 ⟨⟨rfl, K6, t6, kb6, -, S6⟩, -⟩
    show Go p l e ({ frames := 5, cells := 3, slots := 36, locals := 69 } : Room) s m #[.ref wa, .int (Int32.ofNat N), .int (Int32.ofNat P), .int (y &&& 255)] below meth c Z "com/example/llave/llave/policy/ObjectiveOfPinLaw" n0 (Bn s) (EnN s ({ frames := 5, cells := 3, slots := 36, locals := 69 } : Room) n0 (fun v h => ∃ a t kb, v = some (.ref a) ∧ Keep h0 h [] ∧ Str Z h a t kb ((own_fill ws (y &&& 255) N 16).set P (y &&& 255)))) _ _ _ 288 #[.val (.ref wa), .val (.int (Int32.ofNat N)), .val (.int (Int32.ofNat P)), .val (.int (y &&& 255)), .val (.ref ca)] [(.ref sa)]
    refine Go.retA C rfl d22_288 rfl (by decide) (by rw [hlen]; show 20 + N ≤ 36; omega) ?_
    exact ⟨sa, t6, kb6, rfl, (((((Keep.refl h0 []).ext E1).trans K3 (allS (Or.inr (Nat.le_of_eq e_ca.symm)) all0)).ext E5).trans K6 (allS (Or.inr (e_sa ▸ Nat.le_trans E1.1 K3.1)) all0)), S6⟩
  have K15 : ∀ h, Keep h1 h [ca] → Arv Z h ca kC .char (Int32.ofNat N) ((own_fill ws (y &&& 255) N 15).map Value.int) (.int 0) → Go p l e ({ frames := 5, cells := 3, slots := 36, locals := 69 } : Room) s m #[.ref wa, .int (Int32.ofNat N), .int (Int32.ofNat P), .int (y &&& 255)] below meth c Z "com/example/llave/llave/policy/ObjectiveOfPinLaw" n0 (Bn s) (EnN s ({ frames := 5, cells := 3, slots := 36, locals := 69 } : Room) n0 (fun v h => ∃ a t kb, v = some (.ref a) ∧ Keep h0 h [] ∧ Str Z h a t kb ((own_fill ws (y &&& 255) N 16).set P (y &&& 255)))) h 1 16 256 #[.val (.ref wa), .val (.int (Int32.ofNat N)), .val (.int (Int32.ofNat P)), .val (.int (y &&& 255)), .val (.ref ca)] [] := by
    intro h2 KK VV
    refine Go.iloadN C d22_256 rfl (pc' := 257) rfl ?_
    refine Go.bipush C d22_257 (v := 15) rfl (pc' := 259) rfl ?_
    refine Go.icmp_le C d22_259 (by decide) (pc1 := 274) (by decide) (pc2 := 262) rfl (fun hc => ?_) (fun hc => ?_)
    · exact K16 h2 KK (by rw [own_skip (i := 15) (j := 16) rfl (Nat.le_of_not_lt fun q => hc ((own_lt15 N hN).mpr q))]; exact VV)
    · have hi : 15 < N := (own_lt15 N hN).mp hc
      have O2 := O1.keep KK (allS nca all0)
      have S2 := S1.keep KK wn tn
      refine Go.aload C d22_262 rfl rfl (pc' := 264) rfl ?_
      refine Go.bipush C d22_264 (v := 15) rfl (pc' := 266) rfl ?_
      refine Go.aloadN C d22_266 rfl rfl (pc' := 267) rfl ?_
      refine Go.bipush C d22_267 (v := 15) rfl (pc' := 269) rfl ?_
      refine Go.iloadN C d22_269 rfl (pc' := 270) rfl ?_
      show Go p l e ({ frames := 5, cells := 3, slots := 36, locals := 69 } : Room) s m #[.ref wa, .int (Int32.ofNat N), .int (Int32.ofNat P), .int (y &&& 255)] below meth c Z "com/example/llave/llave/policy/ObjectiveOfPinLaw" n0 (Bn s) (EnN s ({ frames := 5, cells := 3, slots := 36, locals := 69 } : Room) n0 (fun v h => ∃ a t kb, v = some (.ref a) ∧ Keep h0 h [] ∧ Str Z h a t kb ((own_fill ws (y &&& 255) N 16).set P (y &&& 255)))) h2 1 16 270 #[.val (.ref wa), .val (.int (Int32.ofNat N)), .val (.int (Int32.ofNat P)), .val (.int (y &&& 255)), .val (.ref ca)] [(.int (y &&& 255)), (.int (Int32.ofNat 15)), (.ref wa), (.int (15 : Int32)), (.ref ca)]
      refine Go.callS C d22_270 (hw _ (List.mem_of_getElem? (i := 30) rfl)) (hw _ (List.mem_of_getElem? (i := 31) rfl)) (hw _ (List.mem_of_getElem? (i := 27) rfl)) (hw _ (List.mem_of_getElem? (i := 32) rfl)) (by decide) (argsL := [(.ref wa), (.int (Int32.ofNat 15)), (.int (y &&& 255))]) (rest := [(.int (15 : Int32)), (.ref ca)]) rfl (lenOf pd__Ljava_lang_String_IC_C rfl) rfl (W := 2) (Nat.le_of_ble_eq_true rfl) (Ct.pay (rm_at l Z a0 hw wa wt wk ws 15 y z fm h2 n0 S2 (by decide) hl St hz Fm rf O2) (hw _ (List.mem_of_getElem? (i := 32) rfl)) (hw _ (List.mem_of_getElem? (i := 27) rfl)) (by decide) (by decide)) (fun _ _ _ q => q.2) (by decide) (by decide) (fun _ _ _ _ _ q => q) (pc' := 273) rfl ?_
      rintro _ _ L1 ⟨⟨rfl, rfl⟩, -⟩
      show Go p l e ({ frames := 5, cells := 3, slots := 36, locals := 69 } : Room) s m #[.ref wa, .int (Int32.ofNat N), .int (Int32.ofNat P), .int (y &&& 255)] below meth c Z "com/example/llave/llave/policy/ObjectiveOfPinLaw" n0 (Bn s) (EnN s ({ frames := 5, cells := 3, slots := 36, locals := 69 } : Room) n0 (fun v h => ∃ a t kb, v = some (.ref a) ∧ Keep h0 h [] ∧ Str Z h a t kb ((own_fill ws (y &&& 255) N 16).set P (y &&& 255)))) _ _ _ 273 #[.val (.ref wa), .val (.int (Int32.ofNat N)), .val (.int (Int32.ofNat P)), .val (.int (y &&& 255)), .val (.ref ca)] [(.int (own_at ws (y &&& 255) 15)), (.int (15 : Int32)), (.ref ca)]
      refine Go.castoreV C d22_273 VV (by decide) hc 15 (by decide) (by rw [List.length_map, own_len]; exact hi) nca (fun _ _ _ q => q) (pc' := 274) rfl ?_
      intro h3 W3 V3
      rw [own_nr (own_atr S.2.2.2.2.1 y 15), own_set (i := 15) (j := 16) rfl hi] at V3
      exact K16 h3 (KK.wr W3 (Or.inl (List.mem_singleton.mpr rfl))) V3
  have K14 : ∀ h, Keep h1 h [ca] → Arv Z h ca kC .char (Int32.ofNat N) ((own_fill ws (y &&& 255) N 14).map Value.int) (.int 0) → Go p l e ({ frames := 5, cells := 3, slots := 36, locals := 69 } : Room) s m #[.ref wa, .int (Int32.ofNat N), .int (Int32.ofNat P), .int (y &&& 255)] below meth c Z "com/example/llave/llave/policy/ObjectiveOfPinLaw" n0 (Bn s) (EnN s ({ frames := 5, cells := 3, slots := 36, locals := 69 } : Room) n0 (fun v h => ∃ a t kb, v = some (.ref a) ∧ Keep h0 h [] ∧ Str Z h a t kb ((own_fill ws (y &&& 255) N 16).set P (y &&& 255)))) h 1 16 238 #[.val (.ref wa), .val (.int (Int32.ofNat N)), .val (.int (Int32.ofNat P)), .val (.int (y &&& 255)), .val (.ref ca)] [] := by
    intro h2 KK VV
    refine Go.iloadN C d22_238 rfl (pc' := 239) rfl ?_
    refine Go.bipush C d22_239 (v := 14) rfl (pc' := 241) rfl ?_
    refine Go.icmp_le C d22_241 (by decide) (pc1 := 256) (by decide) (pc2 := 244) rfl (fun hc => ?_) (fun hc => ?_)
    · exact K15 h2 KK (by rw [own_skip (i := 14) (j := 15) rfl (Nat.le_of_not_lt fun q => hc ((own_lt14 N hN).mpr q))]; exact VV)
    · have hi : 14 < N := (own_lt14 N hN).mp hc
      have O2 := O1.keep KK (allS nca all0)
      have S2 := S1.keep KK wn tn
      refine Go.aload C d22_244 rfl rfl (pc' := 246) rfl ?_
      refine Go.bipush C d22_246 (v := 14) rfl (pc' := 248) rfl ?_
      refine Go.aloadN C d22_248 rfl rfl (pc' := 249) rfl ?_
      refine Go.bipush C d22_249 (v := 14) rfl (pc' := 251) rfl ?_
      refine Go.iloadN C d22_251 rfl (pc' := 252) rfl ?_
      show Go p l e ({ frames := 5, cells := 3, slots := 36, locals := 69 } : Room) s m #[.ref wa, .int (Int32.ofNat N), .int (Int32.ofNat P), .int (y &&& 255)] below meth c Z "com/example/llave/llave/policy/ObjectiveOfPinLaw" n0 (Bn s) (EnN s ({ frames := 5, cells := 3, slots := 36, locals := 69 } : Room) n0 (fun v h => ∃ a t kb, v = some (.ref a) ∧ Keep h0 h [] ∧ Str Z h a t kb ((own_fill ws (y &&& 255) N 16).set P (y &&& 255)))) h2 1 16 252 #[.val (.ref wa), .val (.int (Int32.ofNat N)), .val (.int (Int32.ofNat P)), .val (.int (y &&& 255)), .val (.ref ca)] [(.int (y &&& 255)), (.int (Int32.ofNat 14)), (.ref wa), (.int (14 : Int32)), (.ref ca)]
      refine Go.callS C d22_252 (hw _ (List.mem_of_getElem? (i := 30) rfl)) (hw _ (List.mem_of_getElem? (i := 31) rfl)) (hw _ (List.mem_of_getElem? (i := 27) rfl)) (hw _ (List.mem_of_getElem? (i := 32) rfl)) (by decide) (argsL := [(.ref wa), (.int (Int32.ofNat 14)), (.int (y &&& 255))]) (rest := [(.int (14 : Int32)), (.ref ca)]) rfl (lenOf pd__Ljava_lang_String_IC_C rfl) rfl (W := 2) (Nat.le_of_ble_eq_true rfl) (Ct.pay (rm_at l Z a0 hw wa wt wk ws 14 y z fm h2 n0 S2 (by decide) hl St hz Fm rf O2) (hw _ (List.mem_of_getElem? (i := 32) rfl)) (hw _ (List.mem_of_getElem? (i := 27) rfl)) (by decide) (by decide)) (fun _ _ _ q => q.2) (by decide) (by decide) (fun _ _ _ _ _ q => q) (pc' := 255) rfl ?_
      rintro _ _ L1 ⟨⟨rfl, rfl⟩, -⟩
      show Go p l e ({ frames := 5, cells := 3, slots := 36, locals := 69 } : Room) s m #[.ref wa, .int (Int32.ofNat N), .int (Int32.ofNat P), .int (y &&& 255)] below meth c Z "com/example/llave/llave/policy/ObjectiveOfPinLaw" n0 (Bn s) (EnN s ({ frames := 5, cells := 3, slots := 36, locals := 69 } : Room) n0 (fun v h => ∃ a t kb, v = some (.ref a) ∧ Keep h0 h [] ∧ Str Z h a t kb ((own_fill ws (y &&& 255) N 16).set P (y &&& 255)))) _ _ _ 255 #[.val (.ref wa), .val (.int (Int32.ofNat N)), .val (.int (Int32.ofNat P)), .val (.int (y &&& 255)), .val (.ref ca)] [(.int (own_at ws (y &&& 255) 14)), (.int (14 : Int32)), (.ref ca)]
      refine Go.castoreV C d22_255 VV (by decide) hc 14 (by decide) (by rw [List.length_map, own_len]; exact hi) nca (fun _ _ _ q => q) (pc' := 256) rfl ?_
      intro h3 W3 V3
      rw [own_nr (own_atr S.2.2.2.2.1 y 14), own_set (i := 14) (j := 15) rfl hi] at V3
      exact K15 h3 (KK.wr W3 (Or.inl (List.mem_singleton.mpr rfl))) V3
  have K13 : ∀ h, Keep h1 h [ca] → Arv Z h ca kC .char (Int32.ofNat N) ((own_fill ws (y &&& 255) N 13).map Value.int) (.int 0) → Go p l e ({ frames := 5, cells := 3, slots := 36, locals := 69 } : Room) s m #[.ref wa, .int (Int32.ofNat N), .int (Int32.ofNat P), .int (y &&& 255)] below meth c Z "com/example/llave/llave/policy/ObjectiveOfPinLaw" n0 (Bn s) (EnN s ({ frames := 5, cells := 3, slots := 36, locals := 69 } : Room) n0 (fun v h => ∃ a t kb, v = some (.ref a) ∧ Keep h0 h [] ∧ Str Z h a t kb ((own_fill ws (y &&& 255) N 16).set P (y &&& 255)))) h 1 16 220 #[.val (.ref wa), .val (.int (Int32.ofNat N)), .val (.int (Int32.ofNat P)), .val (.int (y &&& 255)), .val (.ref ca)] [] := by
    intro h2 KK VV
    refine Go.iloadN C d22_220 rfl (pc' := 221) rfl ?_
    refine Go.bipush C d22_221 (v := 13) rfl (pc' := 223) rfl ?_
    refine Go.icmp_le C d22_223 (by decide) (pc1 := 238) (by decide) (pc2 := 226) rfl (fun hc => ?_) (fun hc => ?_)
    · exact K14 h2 KK (by rw [own_skip (i := 13) (j := 14) rfl (Nat.le_of_not_lt fun q => hc ((own_lt13 N hN).mpr q))]; exact VV)
    · have hi : 13 < N := (own_lt13 N hN).mp hc
      have O2 := O1.keep KK (allS nca all0)
      have S2 := S1.keep KK wn tn
      refine Go.aload C d22_226 rfl rfl (pc' := 228) rfl ?_
      refine Go.bipush C d22_228 (v := 13) rfl (pc' := 230) rfl ?_
      refine Go.aloadN C d22_230 rfl rfl (pc' := 231) rfl ?_
      refine Go.bipush C d22_231 (v := 13) rfl (pc' := 233) rfl ?_
      refine Go.iloadN C d22_233 rfl (pc' := 234) rfl ?_
      show Go p l e ({ frames := 5, cells := 3, slots := 36, locals := 69 } : Room) s m #[.ref wa, .int (Int32.ofNat N), .int (Int32.ofNat P), .int (y &&& 255)] below meth c Z "com/example/llave/llave/policy/ObjectiveOfPinLaw" n0 (Bn s) (EnN s ({ frames := 5, cells := 3, slots := 36, locals := 69 } : Room) n0 (fun v h => ∃ a t kb, v = some (.ref a) ∧ Keep h0 h [] ∧ Str Z h a t kb ((own_fill ws (y &&& 255) N 16).set P (y &&& 255)))) h2 1 16 234 #[.val (.ref wa), .val (.int (Int32.ofNat N)), .val (.int (Int32.ofNat P)), .val (.int (y &&& 255)), .val (.ref ca)] [(.int (y &&& 255)), (.int (Int32.ofNat 13)), (.ref wa), (.int (13 : Int32)), (.ref ca)]
      refine Go.callS C d22_234 (hw _ (List.mem_of_getElem? (i := 30) rfl)) (hw _ (List.mem_of_getElem? (i := 31) rfl)) (hw _ (List.mem_of_getElem? (i := 27) rfl)) (hw _ (List.mem_of_getElem? (i := 32) rfl)) (by decide) (argsL := [(.ref wa), (.int (Int32.ofNat 13)), (.int (y &&& 255))]) (rest := [(.int (13 : Int32)), (.ref ca)]) rfl (lenOf pd__Ljava_lang_String_IC_C rfl) rfl (W := 2) (Nat.le_of_ble_eq_true rfl) (Ct.pay (rm_at l Z a0 hw wa wt wk ws 13 y z fm h2 n0 S2 (by decide) hl St hz Fm rf O2) (hw _ (List.mem_of_getElem? (i := 32) rfl)) (hw _ (List.mem_of_getElem? (i := 27) rfl)) (by decide) (by decide)) (fun _ _ _ q => q.2) (by decide) (by decide) (fun _ _ _ _ _ q => q) (pc' := 237) rfl ?_
      rintro _ _ L1 ⟨⟨rfl, rfl⟩, -⟩
      show Go p l e ({ frames := 5, cells := 3, slots := 36, locals := 69 } : Room) s m #[.ref wa, .int (Int32.ofNat N), .int (Int32.ofNat P), .int (y &&& 255)] below meth c Z "com/example/llave/llave/policy/ObjectiveOfPinLaw" n0 (Bn s) (EnN s ({ frames := 5, cells := 3, slots := 36, locals := 69 } : Room) n0 (fun v h => ∃ a t kb, v = some (.ref a) ∧ Keep h0 h [] ∧ Str Z h a t kb ((own_fill ws (y &&& 255) N 16).set P (y &&& 255)))) _ _ _ 237 #[.val (.ref wa), .val (.int (Int32.ofNat N)), .val (.int (Int32.ofNat P)), .val (.int (y &&& 255)), .val (.ref ca)] [(.int (own_at ws (y &&& 255) 13)), (.int (13 : Int32)), (.ref ca)]
      refine Go.castoreV C d22_237 VV (by decide) hc 13 (by decide) (by rw [List.length_map, own_len]; exact hi) nca (fun _ _ _ q => q) (pc' := 238) rfl ?_
      intro h3 W3 V3
      rw [own_nr (own_atr S.2.2.2.2.1 y 13), own_set (i := 13) (j := 14) rfl hi] at V3
      exact K14 h3 (KK.wr W3 (Or.inl (List.mem_singleton.mpr rfl))) V3
  have K12 : ∀ h, Keep h1 h [ca] → Arv Z h ca kC .char (Int32.ofNat N) ((own_fill ws (y &&& 255) N 12).map Value.int) (.int 0) → Go p l e ({ frames := 5, cells := 3, slots := 36, locals := 69 } : Room) s m #[.ref wa, .int (Int32.ofNat N), .int (Int32.ofNat P), .int (y &&& 255)] below meth c Z "com/example/llave/llave/policy/ObjectiveOfPinLaw" n0 (Bn s) (EnN s ({ frames := 5, cells := 3, slots := 36, locals := 69 } : Room) n0 (fun v h => ∃ a t kb, v = some (.ref a) ∧ Keep h0 h [] ∧ Str Z h a t kb ((own_fill ws (y &&& 255) N 16).set P (y &&& 255)))) h 1 16 202 #[.val (.ref wa), .val (.int (Int32.ofNat N)), .val (.int (Int32.ofNat P)), .val (.int (y &&& 255)), .val (.ref ca)] [] := by
    intro h2 KK VV
    refine Go.iloadN C d22_202 rfl (pc' := 203) rfl ?_
    refine Go.bipush C d22_203 (v := 12) rfl (pc' := 205) rfl ?_
    refine Go.icmp_le C d22_205 (by decide) (pc1 := 220) (by decide) (pc2 := 208) rfl (fun hc => ?_) (fun hc => ?_)
    · exact K13 h2 KK (by rw [own_skip (i := 12) (j := 13) rfl (Nat.le_of_not_lt fun q => hc ((own_lt12 N hN).mpr q))]; exact VV)
    · have hi : 12 < N := (own_lt12 N hN).mp hc
      have O2 := O1.keep KK (allS nca all0)
      have S2 := S1.keep KK wn tn
      refine Go.aload C d22_208 rfl rfl (pc' := 210) rfl ?_
      refine Go.bipush C d22_210 (v := 12) rfl (pc' := 212) rfl ?_
      refine Go.aloadN C d22_212 rfl rfl (pc' := 213) rfl ?_
      refine Go.bipush C d22_213 (v := 12) rfl (pc' := 215) rfl ?_
      refine Go.iloadN C d22_215 rfl (pc' := 216) rfl ?_
      show Go p l e ({ frames := 5, cells := 3, slots := 36, locals := 69 } : Room) s m #[.ref wa, .int (Int32.ofNat N), .int (Int32.ofNat P), .int (y &&& 255)] below meth c Z "com/example/llave/llave/policy/ObjectiveOfPinLaw" n0 (Bn s) (EnN s ({ frames := 5, cells := 3, slots := 36, locals := 69 } : Room) n0 (fun v h => ∃ a t kb, v = some (.ref a) ∧ Keep h0 h [] ∧ Str Z h a t kb ((own_fill ws (y &&& 255) N 16).set P (y &&& 255)))) h2 1 16 216 #[.val (.ref wa), .val (.int (Int32.ofNat N)), .val (.int (Int32.ofNat P)), .val (.int (y &&& 255)), .val (.ref ca)] [(.int (y &&& 255)), (.int (Int32.ofNat 12)), (.ref wa), (.int (12 : Int32)), (.ref ca)]
      refine Go.callS C d22_216 (hw _ (List.mem_of_getElem? (i := 30) rfl)) (hw _ (List.mem_of_getElem? (i := 31) rfl)) (hw _ (List.mem_of_getElem? (i := 27) rfl)) (hw _ (List.mem_of_getElem? (i := 32) rfl)) (by decide) (argsL := [(.ref wa), (.int (Int32.ofNat 12)), (.int (y &&& 255))]) (rest := [(.int (12 : Int32)), (.ref ca)]) rfl (lenOf pd__Ljava_lang_String_IC_C rfl) rfl (W := 2) (Nat.le_of_ble_eq_true rfl) (Ct.pay (rm_at l Z a0 hw wa wt wk ws 12 y z fm h2 n0 S2 (by decide) hl St hz Fm rf O2) (hw _ (List.mem_of_getElem? (i := 32) rfl)) (hw _ (List.mem_of_getElem? (i := 27) rfl)) (by decide) (by decide)) (fun _ _ _ q => q.2) (by decide) (by decide) (fun _ _ _ _ _ q => q) (pc' := 219) rfl ?_
      rintro _ _ L1 ⟨⟨rfl, rfl⟩, -⟩
      show Go p l e ({ frames := 5, cells := 3, slots := 36, locals := 69 } : Room) s m #[.ref wa, .int (Int32.ofNat N), .int (Int32.ofNat P), .int (y &&& 255)] below meth c Z "com/example/llave/llave/policy/ObjectiveOfPinLaw" n0 (Bn s) (EnN s ({ frames := 5, cells := 3, slots := 36, locals := 69 } : Room) n0 (fun v h => ∃ a t kb, v = some (.ref a) ∧ Keep h0 h [] ∧ Str Z h a t kb ((own_fill ws (y &&& 255) N 16).set P (y &&& 255)))) _ _ _ 219 #[.val (.ref wa), .val (.int (Int32.ofNat N)), .val (.int (Int32.ofNat P)), .val (.int (y &&& 255)), .val (.ref ca)] [(.int (own_at ws (y &&& 255) 12)), (.int (12 : Int32)), (.ref ca)]
      refine Go.castoreV C d22_219 VV (by decide) hc 12 (by decide) (by rw [List.length_map, own_len]; exact hi) nca (fun _ _ _ q => q) (pc' := 220) rfl ?_
      intro h3 W3 V3
      rw [own_nr (own_atr S.2.2.2.2.1 y 12), own_set (i := 12) (j := 13) rfl hi] at V3
      exact K13 h3 (KK.wr W3 (Or.inl (List.mem_singleton.mpr rfl))) V3
  have K11 : ∀ h, Keep h1 h [ca] → Arv Z h ca kC .char (Int32.ofNat N) ((own_fill ws (y &&& 255) N 11).map Value.int) (.int 0) → Go p l e ({ frames := 5, cells := 3, slots := 36, locals := 69 } : Room) s m #[.ref wa, .int (Int32.ofNat N), .int (Int32.ofNat P), .int (y &&& 255)] below meth c Z "com/example/llave/llave/policy/ObjectiveOfPinLaw" n0 (Bn s) (EnN s ({ frames := 5, cells := 3, slots := 36, locals := 69 } : Room) n0 (fun v h => ∃ a t kb, v = some (.ref a) ∧ Keep h0 h [] ∧ Str Z h a t kb ((own_fill ws (y &&& 255) N 16).set P (y &&& 255)))) h 1 16 184 #[.val (.ref wa), .val (.int (Int32.ofNat N)), .val (.int (Int32.ofNat P)), .val (.int (y &&& 255)), .val (.ref ca)] [] := by
    intro h2 KK VV
    refine Go.iloadN C d22_184 rfl (pc' := 185) rfl ?_
    refine Go.bipush C d22_185 (v := 11) rfl (pc' := 187) rfl ?_
    refine Go.icmp_le C d22_187 (by decide) (pc1 := 202) (by decide) (pc2 := 190) rfl (fun hc => ?_) (fun hc => ?_)
    · exact K12 h2 KK (by rw [own_skip (i := 11) (j := 12) rfl (Nat.le_of_not_lt fun q => hc ((own_lt11 N hN).mpr q))]; exact VV)
    · have hi : 11 < N := (own_lt11 N hN).mp hc
      have O2 := O1.keep KK (allS nca all0)
      have S2 := S1.keep KK wn tn
      refine Go.aload C d22_190 rfl rfl (pc' := 192) rfl ?_
      refine Go.bipush C d22_192 (v := 11) rfl (pc' := 194) rfl ?_
      refine Go.aloadN C d22_194 rfl rfl (pc' := 195) rfl ?_
      refine Go.bipush C d22_195 (v := 11) rfl (pc' := 197) rfl ?_
      refine Go.iloadN C d22_197 rfl (pc' := 198) rfl ?_
      show Go p l e ({ frames := 5, cells := 3, slots := 36, locals := 69 } : Room) s m #[.ref wa, .int (Int32.ofNat N), .int (Int32.ofNat P), .int (y &&& 255)] below meth c Z "com/example/llave/llave/policy/ObjectiveOfPinLaw" n0 (Bn s) (EnN s ({ frames := 5, cells := 3, slots := 36, locals := 69 } : Room) n0 (fun v h => ∃ a t kb, v = some (.ref a) ∧ Keep h0 h [] ∧ Str Z h a t kb ((own_fill ws (y &&& 255) N 16).set P (y &&& 255)))) h2 1 16 198 #[.val (.ref wa), .val (.int (Int32.ofNat N)), .val (.int (Int32.ofNat P)), .val (.int (y &&& 255)), .val (.ref ca)] [(.int (y &&& 255)), (.int (Int32.ofNat 11)), (.ref wa), (.int (11 : Int32)), (.ref ca)]
      refine Go.callS C d22_198 (hw _ (List.mem_of_getElem? (i := 30) rfl)) (hw _ (List.mem_of_getElem? (i := 31) rfl)) (hw _ (List.mem_of_getElem? (i := 27) rfl)) (hw _ (List.mem_of_getElem? (i := 32) rfl)) (by decide) (argsL := [(.ref wa), (.int (Int32.ofNat 11)), (.int (y &&& 255))]) (rest := [(.int (11 : Int32)), (.ref ca)]) rfl (lenOf pd__Ljava_lang_String_IC_C rfl) rfl (W := 2) (Nat.le_of_ble_eq_true rfl) (Ct.pay (rm_at l Z a0 hw wa wt wk ws 11 y z fm h2 n0 S2 (by decide) hl St hz Fm rf O2) (hw _ (List.mem_of_getElem? (i := 32) rfl)) (hw _ (List.mem_of_getElem? (i := 27) rfl)) (by decide) (by decide)) (fun _ _ _ q => q.2) (by decide) (by decide) (fun _ _ _ _ _ q => q) (pc' := 201) rfl ?_
      rintro _ _ L1 ⟨⟨rfl, rfl⟩, -⟩
      show Go p l e ({ frames := 5, cells := 3, slots := 36, locals := 69 } : Room) s m #[.ref wa, .int (Int32.ofNat N), .int (Int32.ofNat P), .int (y &&& 255)] below meth c Z "com/example/llave/llave/policy/ObjectiveOfPinLaw" n0 (Bn s) (EnN s ({ frames := 5, cells := 3, slots := 36, locals := 69 } : Room) n0 (fun v h => ∃ a t kb, v = some (.ref a) ∧ Keep h0 h [] ∧ Str Z h a t kb ((own_fill ws (y &&& 255) N 16).set P (y &&& 255)))) _ _ _ 201 #[.val (.ref wa), .val (.int (Int32.ofNat N)), .val (.int (Int32.ofNat P)), .val (.int (y &&& 255)), .val (.ref ca)] [(.int (own_at ws (y &&& 255) 11)), (.int (11 : Int32)), (.ref ca)]
      refine Go.castoreV C d22_201 VV (by decide) hc 11 (by decide) (by rw [List.length_map, own_len]; exact hi) nca (fun _ _ _ q => q) (pc' := 202) rfl ?_
      intro h3 W3 V3
      rw [own_nr (own_atr S.2.2.2.2.1 y 11), own_set (i := 11) (j := 12) rfl hi] at V3
      exact K12 h3 (KK.wr W3 (Or.inl (List.mem_singleton.mpr rfl))) V3
  have K10 : ∀ h, Keep h1 h [ca] → Arv Z h ca kC .char (Int32.ofNat N) ((own_fill ws (y &&& 255) N 10).map Value.int) (.int 0) → Go p l e ({ frames := 5, cells := 3, slots := 36, locals := 69 } : Room) s m #[.ref wa, .int (Int32.ofNat N), .int (Int32.ofNat P), .int (y &&& 255)] below meth c Z "com/example/llave/llave/policy/ObjectiveOfPinLaw" n0 (Bn s) (EnN s ({ frames := 5, cells := 3, slots := 36, locals := 69 } : Room) n0 (fun v h => ∃ a t kb, v = some (.ref a) ∧ Keep h0 h [] ∧ Str Z h a t kb ((own_fill ws (y &&& 255) N 16).set P (y &&& 255)))) h 1 16 166 #[.val (.ref wa), .val (.int (Int32.ofNat N)), .val (.int (Int32.ofNat P)), .val (.int (y &&& 255)), .val (.ref ca)] [] := by
    intro h2 KK VV
    refine Go.iloadN C d22_166 rfl (pc' := 167) rfl ?_
    refine Go.bipush C d22_167 (v := 10) rfl (pc' := 169) rfl ?_
    refine Go.icmp_le C d22_169 (by decide) (pc1 := 184) (by decide) (pc2 := 172) rfl (fun hc => ?_) (fun hc => ?_)
    · exact K11 h2 KK (by rw [own_skip (i := 10) (j := 11) rfl (Nat.le_of_not_lt fun q => hc ((own_lt10 N hN).mpr q))]; exact VV)
    · have hi : 10 < N := (own_lt10 N hN).mp hc
      have O2 := O1.keep KK (allS nca all0)
      have S2 := S1.keep KK wn tn
      refine Go.aload C d22_172 rfl rfl (pc' := 174) rfl ?_
      refine Go.bipush C d22_174 (v := 10) rfl (pc' := 176) rfl ?_
      refine Go.aloadN C d22_176 rfl rfl (pc' := 177) rfl ?_
      refine Go.bipush C d22_177 (v := 10) rfl (pc' := 179) rfl ?_
      refine Go.iloadN C d22_179 rfl (pc' := 180) rfl ?_
      show Go p l e ({ frames := 5, cells := 3, slots := 36, locals := 69 } : Room) s m #[.ref wa, .int (Int32.ofNat N), .int (Int32.ofNat P), .int (y &&& 255)] below meth c Z "com/example/llave/llave/policy/ObjectiveOfPinLaw" n0 (Bn s) (EnN s ({ frames := 5, cells := 3, slots := 36, locals := 69 } : Room) n0 (fun v h => ∃ a t kb, v = some (.ref a) ∧ Keep h0 h [] ∧ Str Z h a t kb ((own_fill ws (y &&& 255) N 16).set P (y &&& 255)))) h2 1 16 180 #[.val (.ref wa), .val (.int (Int32.ofNat N)), .val (.int (Int32.ofNat P)), .val (.int (y &&& 255)), .val (.ref ca)] [(.int (y &&& 255)), (.int (Int32.ofNat 10)), (.ref wa), (.int (10 : Int32)), (.ref ca)]
      refine Go.callS C d22_180 (hw _ (List.mem_of_getElem? (i := 30) rfl)) (hw _ (List.mem_of_getElem? (i := 31) rfl)) (hw _ (List.mem_of_getElem? (i := 27) rfl)) (hw _ (List.mem_of_getElem? (i := 32) rfl)) (by decide) (argsL := [(.ref wa), (.int (Int32.ofNat 10)), (.int (y &&& 255))]) (rest := [(.int (10 : Int32)), (.ref ca)]) rfl (lenOf pd__Ljava_lang_String_IC_C rfl) rfl (W := 2) (Nat.le_of_ble_eq_true rfl) (Ct.pay (rm_at l Z a0 hw wa wt wk ws 10 y z fm h2 n0 S2 (by decide) hl St hz Fm rf O2) (hw _ (List.mem_of_getElem? (i := 32) rfl)) (hw _ (List.mem_of_getElem? (i := 27) rfl)) (by decide) (by decide)) (fun _ _ _ q => q.2) (by decide) (by decide) (fun _ _ _ _ _ q => q) (pc' := 183) rfl ?_
      rintro _ _ L1 ⟨⟨rfl, rfl⟩, -⟩
      show Go p l e ({ frames := 5, cells := 3, slots := 36, locals := 69 } : Room) s m #[.ref wa, .int (Int32.ofNat N), .int (Int32.ofNat P), .int (y &&& 255)] below meth c Z "com/example/llave/llave/policy/ObjectiveOfPinLaw" n0 (Bn s) (EnN s ({ frames := 5, cells := 3, slots := 36, locals := 69 } : Room) n0 (fun v h => ∃ a t kb, v = some (.ref a) ∧ Keep h0 h [] ∧ Str Z h a t kb ((own_fill ws (y &&& 255) N 16).set P (y &&& 255)))) _ _ _ 183 #[.val (.ref wa), .val (.int (Int32.ofNat N)), .val (.int (Int32.ofNat P)), .val (.int (y &&& 255)), .val (.ref ca)] [(.int (own_at ws (y &&& 255) 10)), (.int (10 : Int32)), (.ref ca)]
      refine Go.castoreV C d22_183 VV (by decide) hc 10 (by decide) (by rw [List.length_map, own_len]; exact hi) nca (fun _ _ _ q => q) (pc' := 184) rfl ?_
      intro h3 W3 V3
      rw [own_nr (own_atr S.2.2.2.2.1 y 10), own_set (i := 10) (j := 11) rfl hi] at V3
      exact K11 h3 (KK.wr W3 (Or.inl (List.mem_singleton.mpr rfl))) V3
  have K9 : ∀ h, Keep h1 h [ca] → Arv Z h ca kC .char (Int32.ofNat N) ((own_fill ws (y &&& 255) N 9).map Value.int) (.int 0) → Go p l e ({ frames := 5, cells := 3, slots := 36, locals := 69 } : Room) s m #[.ref wa, .int (Int32.ofNat N), .int (Int32.ofNat P), .int (y &&& 255)] below meth c Z "com/example/llave/llave/policy/ObjectiveOfPinLaw" n0 (Bn s) (EnN s ({ frames := 5, cells := 3, slots := 36, locals := 69 } : Room) n0 (fun v h => ∃ a t kb, v = some (.ref a) ∧ Keep h0 h [] ∧ Str Z h a t kb ((own_fill ws (y &&& 255) N 16).set P (y &&& 255)))) h 1 16 148 #[.val (.ref wa), .val (.int (Int32.ofNat N)), .val (.int (Int32.ofNat P)), .val (.int (y &&& 255)), .val (.ref ca)] [] := by
    intro h2 KK VV
    refine Go.iloadN C d22_148 rfl (pc' := 149) rfl ?_
    refine Go.bipush C d22_149 (v := 9) rfl (pc' := 151) rfl ?_
    refine Go.icmp_le C d22_151 (by decide) (pc1 := 166) (by decide) (pc2 := 154) rfl (fun hc => ?_) (fun hc => ?_)
    · exact K10 h2 KK (by rw [own_skip (i := 9) (j := 10) rfl (Nat.le_of_not_lt fun q => hc ((own_lt9 N hN).mpr q))]; exact VV)
    · have hi : 9 < N := (own_lt9 N hN).mp hc
      have O2 := O1.keep KK (allS nca all0)
      have S2 := S1.keep KK wn tn
      refine Go.aload C d22_154 rfl rfl (pc' := 156) rfl ?_
      refine Go.bipush C d22_156 (v := 9) rfl (pc' := 158) rfl ?_
      refine Go.aloadN C d22_158 rfl rfl (pc' := 159) rfl ?_
      refine Go.bipush C d22_159 (v := 9) rfl (pc' := 161) rfl ?_
      refine Go.iloadN C d22_161 rfl (pc' := 162) rfl ?_
      show Go p l e ({ frames := 5, cells := 3, slots := 36, locals := 69 } : Room) s m #[.ref wa, .int (Int32.ofNat N), .int (Int32.ofNat P), .int (y &&& 255)] below meth c Z "com/example/llave/llave/policy/ObjectiveOfPinLaw" n0 (Bn s) (EnN s ({ frames := 5, cells := 3, slots := 36, locals := 69 } : Room) n0 (fun v h => ∃ a t kb, v = some (.ref a) ∧ Keep h0 h [] ∧ Str Z h a t kb ((own_fill ws (y &&& 255) N 16).set P (y &&& 255)))) h2 1 16 162 #[.val (.ref wa), .val (.int (Int32.ofNat N)), .val (.int (Int32.ofNat P)), .val (.int (y &&& 255)), .val (.ref ca)] [(.int (y &&& 255)), (.int (Int32.ofNat 9)), (.ref wa), (.int (9 : Int32)), (.ref ca)]
      refine Go.callS C d22_162 (hw _ (List.mem_of_getElem? (i := 30) rfl)) (hw _ (List.mem_of_getElem? (i := 31) rfl)) (hw _ (List.mem_of_getElem? (i := 27) rfl)) (hw _ (List.mem_of_getElem? (i := 32) rfl)) (by decide) (argsL := [(.ref wa), (.int (Int32.ofNat 9)), (.int (y &&& 255))]) (rest := [(.int (9 : Int32)), (.ref ca)]) rfl (lenOf pd__Ljava_lang_String_IC_C rfl) rfl (W := 2) (Nat.le_of_ble_eq_true rfl) (Ct.pay (rm_at l Z a0 hw wa wt wk ws 9 y z fm h2 n0 S2 (by decide) hl St hz Fm rf O2) (hw _ (List.mem_of_getElem? (i := 32) rfl)) (hw _ (List.mem_of_getElem? (i := 27) rfl)) (by decide) (by decide)) (fun _ _ _ q => q.2) (by decide) (by decide) (fun _ _ _ _ _ q => q) (pc' := 165) rfl ?_
      rintro _ _ L1 ⟨⟨rfl, rfl⟩, -⟩
      show Go p l e ({ frames := 5, cells := 3, slots := 36, locals := 69 } : Room) s m #[.ref wa, .int (Int32.ofNat N), .int (Int32.ofNat P), .int (y &&& 255)] below meth c Z "com/example/llave/llave/policy/ObjectiveOfPinLaw" n0 (Bn s) (EnN s ({ frames := 5, cells := 3, slots := 36, locals := 69 } : Room) n0 (fun v h => ∃ a t kb, v = some (.ref a) ∧ Keep h0 h [] ∧ Str Z h a t kb ((own_fill ws (y &&& 255) N 16).set P (y &&& 255)))) _ _ _ 165 #[.val (.ref wa), .val (.int (Int32.ofNat N)), .val (.int (Int32.ofNat P)), .val (.int (y &&& 255)), .val (.ref ca)] [(.int (own_at ws (y &&& 255) 9)), (.int (9 : Int32)), (.ref ca)]
      refine Go.castoreV C d22_165 VV (by decide) hc 9 (by decide) (by rw [List.length_map, own_len]; exact hi) nca (fun _ _ _ q => q) (pc' := 166) rfl ?_
      intro h3 W3 V3
      rw [own_nr (own_atr S.2.2.2.2.1 y 9), own_set (i := 9) (j := 10) rfl hi] at V3
      exact K10 h3 (KK.wr W3 (Or.inl (List.mem_singleton.mpr rfl))) V3
  have K8 : ∀ h, Keep h1 h [ca] → Arv Z h ca kC .char (Int32.ofNat N) ((own_fill ws (y &&& 255) N 8).map Value.int) (.int 0) → Go p l e ({ frames := 5, cells := 3, slots := 36, locals := 69 } : Room) s m #[.ref wa, .int (Int32.ofNat N), .int (Int32.ofNat P), .int (y &&& 255)] below meth c Z "com/example/llave/llave/policy/ObjectiveOfPinLaw" n0 (Bn s) (EnN s ({ frames := 5, cells := 3, slots := 36, locals := 69 } : Room) n0 (fun v h => ∃ a t kb, v = some (.ref a) ∧ Keep h0 h [] ∧ Str Z h a t kb ((own_fill ws (y &&& 255) N 16).set P (y &&& 255)))) h 1 16 130 #[.val (.ref wa), .val (.int (Int32.ofNat N)), .val (.int (Int32.ofNat P)), .val (.int (y &&& 255)), .val (.ref ca)] [] := by
    intro h2 KK VV
    refine Go.iloadN C d22_130 rfl (pc' := 131) rfl ?_
    refine Go.bipush C d22_131 (v := 8) rfl (pc' := 133) rfl ?_
    refine Go.icmp_le C d22_133 (by decide) (pc1 := 148) (by decide) (pc2 := 136) rfl (fun hc => ?_) (fun hc => ?_)
    · exact K9 h2 KK (by rw [own_skip (i := 8) (j := 9) rfl (Nat.le_of_not_lt fun q => hc ((own_lt8 N hN).mpr q))]; exact VV)
    · have hi : 8 < N := (own_lt8 N hN).mp hc
      have O2 := O1.keep KK (allS nca all0)
      have S2 := S1.keep KK wn tn
      refine Go.aload C d22_136 rfl rfl (pc' := 138) rfl ?_
      refine Go.bipush C d22_138 (v := 8) rfl (pc' := 140) rfl ?_
      refine Go.aloadN C d22_140 rfl rfl (pc' := 141) rfl ?_
      refine Go.bipush C d22_141 (v := 8) rfl (pc' := 143) rfl ?_
      refine Go.iloadN C d22_143 rfl (pc' := 144) rfl ?_
      show Go p l e ({ frames := 5, cells := 3, slots := 36, locals := 69 } : Room) s m #[.ref wa, .int (Int32.ofNat N), .int (Int32.ofNat P), .int (y &&& 255)] below meth c Z "com/example/llave/llave/policy/ObjectiveOfPinLaw" n0 (Bn s) (EnN s ({ frames := 5, cells := 3, slots := 36, locals := 69 } : Room) n0 (fun v h => ∃ a t kb, v = some (.ref a) ∧ Keep h0 h [] ∧ Str Z h a t kb ((own_fill ws (y &&& 255) N 16).set P (y &&& 255)))) h2 1 16 144 #[.val (.ref wa), .val (.int (Int32.ofNat N)), .val (.int (Int32.ofNat P)), .val (.int (y &&& 255)), .val (.ref ca)] [(.int (y &&& 255)), (.int (Int32.ofNat 8)), (.ref wa), (.int (8 : Int32)), (.ref ca)]
      refine Go.callS C d22_144 (hw _ (List.mem_of_getElem? (i := 30) rfl)) (hw _ (List.mem_of_getElem? (i := 31) rfl)) (hw _ (List.mem_of_getElem? (i := 27) rfl)) (hw _ (List.mem_of_getElem? (i := 32) rfl)) (by decide) (argsL := [(.ref wa), (.int (Int32.ofNat 8)), (.int (y &&& 255))]) (rest := [(.int (8 : Int32)), (.ref ca)]) rfl (lenOf pd__Ljava_lang_String_IC_C rfl) rfl (W := 2) (Nat.le_of_ble_eq_true rfl) (Ct.pay (rm_at l Z a0 hw wa wt wk ws 8 y z fm h2 n0 S2 (by decide) hl St hz Fm rf O2) (hw _ (List.mem_of_getElem? (i := 32) rfl)) (hw _ (List.mem_of_getElem? (i := 27) rfl)) (by decide) (by decide)) (fun _ _ _ q => q.2) (by decide) (by decide) (fun _ _ _ _ _ q => q) (pc' := 147) rfl ?_
      rintro _ _ L1 ⟨⟨rfl, rfl⟩, -⟩
      show Go p l e ({ frames := 5, cells := 3, slots := 36, locals := 69 } : Room) s m #[.ref wa, .int (Int32.ofNat N), .int (Int32.ofNat P), .int (y &&& 255)] below meth c Z "com/example/llave/llave/policy/ObjectiveOfPinLaw" n0 (Bn s) (EnN s ({ frames := 5, cells := 3, slots := 36, locals := 69 } : Room) n0 (fun v h => ∃ a t kb, v = some (.ref a) ∧ Keep h0 h [] ∧ Str Z h a t kb ((own_fill ws (y &&& 255) N 16).set P (y &&& 255)))) _ _ _ 147 #[.val (.ref wa), .val (.int (Int32.ofNat N)), .val (.int (Int32.ofNat P)), .val (.int (y &&& 255)), .val (.ref ca)] [(.int (own_at ws (y &&& 255) 8)), (.int (8 : Int32)), (.ref ca)]
      refine Go.castoreV C d22_147 VV (by decide) hc 8 (by decide) (by rw [List.length_map, own_len]; exact hi) nca (fun _ _ _ q => q) (pc' := 148) rfl ?_
      intro h3 W3 V3
      rw [own_nr (own_atr S.2.2.2.2.1 y 8), own_set (i := 8) (j := 9) rfl hi] at V3
      exact K9 h3 (KK.wr W3 (Or.inl (List.mem_singleton.mpr rfl))) V3
  have K7 : ∀ h, Keep h1 h [ca] → Arv Z h ca kC .char (Int32.ofNat N) ((own_fill ws (y &&& 255) N 7).map Value.int) (.int 0) → Go p l e ({ frames := 5, cells := 3, slots := 36, locals := 69 } : Room) s m #[.ref wa, .int (Int32.ofNat N), .int (Int32.ofNat P), .int (y &&& 255)] below meth c Z "com/example/llave/llave/policy/ObjectiveOfPinLaw" n0 (Bn s) (EnN s ({ frames := 5, cells := 3, slots := 36, locals := 69 } : Room) n0 (fun v h => ∃ a t kb, v = some (.ref a) ∧ Keep h0 h [] ∧ Str Z h a t kb ((own_fill ws (y &&& 255) N 16).set P (y &&& 255)))) h 1 16 112 #[.val (.ref wa), .val (.int (Int32.ofNat N)), .val (.int (Int32.ofNat P)), .val (.int (y &&& 255)), .val (.ref ca)] [] := by
    intro h2 KK VV
    refine Go.iloadN C d22_112 rfl (pc' := 113) rfl ?_
    refine Go.bipush C d22_113 (v := 7) rfl (pc' := 115) rfl ?_
    refine Go.icmp_le C d22_115 (by decide) (pc1 := 130) (by decide) (pc2 := 118) rfl (fun hc => ?_) (fun hc => ?_)
    · exact K8 h2 KK (by rw [own_skip (i := 7) (j := 8) rfl (Nat.le_of_not_lt fun q => hc ((own_lt7 N hN).mpr q))]; exact VV)
    · have hi : 7 < N := (own_lt7 N hN).mp hc
      have O2 := O1.keep KK (allS nca all0)
      have S2 := S1.keep KK wn tn
      refine Go.aload C d22_118 rfl rfl (pc' := 120) rfl ?_
      refine Go.bipush C d22_120 (v := 7) rfl (pc' := 122) rfl ?_
      refine Go.aloadN C d22_122 rfl rfl (pc' := 123) rfl ?_
      refine Go.bipush C d22_123 (v := 7) rfl (pc' := 125) rfl ?_
      refine Go.iloadN C d22_125 rfl (pc' := 126) rfl ?_
      show Go p l e ({ frames := 5, cells := 3, slots := 36, locals := 69 } : Room) s m #[.ref wa, .int (Int32.ofNat N), .int (Int32.ofNat P), .int (y &&& 255)] below meth c Z "com/example/llave/llave/policy/ObjectiveOfPinLaw" n0 (Bn s) (EnN s ({ frames := 5, cells := 3, slots := 36, locals := 69 } : Room) n0 (fun v h => ∃ a t kb, v = some (.ref a) ∧ Keep h0 h [] ∧ Str Z h a t kb ((own_fill ws (y &&& 255) N 16).set P (y &&& 255)))) h2 1 16 126 #[.val (.ref wa), .val (.int (Int32.ofNat N)), .val (.int (Int32.ofNat P)), .val (.int (y &&& 255)), .val (.ref ca)] [(.int (y &&& 255)), (.int (Int32.ofNat 7)), (.ref wa), (.int (7 : Int32)), (.ref ca)]
      refine Go.callS C d22_126 (hw _ (List.mem_of_getElem? (i := 30) rfl)) (hw _ (List.mem_of_getElem? (i := 31) rfl)) (hw _ (List.mem_of_getElem? (i := 27) rfl)) (hw _ (List.mem_of_getElem? (i := 32) rfl)) (by decide) (argsL := [(.ref wa), (.int (Int32.ofNat 7)), (.int (y &&& 255))]) (rest := [(.int (7 : Int32)), (.ref ca)]) rfl (lenOf pd__Ljava_lang_String_IC_C rfl) rfl (W := 2) (Nat.le_of_ble_eq_true rfl) (Ct.pay (rm_at l Z a0 hw wa wt wk ws 7 y z fm h2 n0 S2 (by decide) hl St hz Fm rf O2) (hw _ (List.mem_of_getElem? (i := 32) rfl)) (hw _ (List.mem_of_getElem? (i := 27) rfl)) (by decide) (by decide)) (fun _ _ _ q => q.2) (by decide) (by decide) (fun _ _ _ _ _ q => q) (pc' := 129) rfl ?_
      rintro _ _ L1 ⟨⟨rfl, rfl⟩, -⟩
      show Go p l e ({ frames := 5, cells := 3, slots := 36, locals := 69 } : Room) s m #[.ref wa, .int (Int32.ofNat N), .int (Int32.ofNat P), .int (y &&& 255)] below meth c Z "com/example/llave/llave/policy/ObjectiveOfPinLaw" n0 (Bn s) (EnN s ({ frames := 5, cells := 3, slots := 36, locals := 69 } : Room) n0 (fun v h => ∃ a t kb, v = some (.ref a) ∧ Keep h0 h [] ∧ Str Z h a t kb ((own_fill ws (y &&& 255) N 16).set P (y &&& 255)))) _ _ _ 129 #[.val (.ref wa), .val (.int (Int32.ofNat N)), .val (.int (Int32.ofNat P)), .val (.int (y &&& 255)), .val (.ref ca)] [(.int (own_at ws (y &&& 255) 7)), (.int (7 : Int32)), (.ref ca)]
      refine Go.castoreV C d22_129 VV (by decide) hc 7 (by decide) (by rw [List.length_map, own_len]; exact hi) nca (fun _ _ _ q => q) (pc' := 130) rfl ?_
      intro h3 W3 V3
      rw [own_nr (own_atr S.2.2.2.2.1 y 7), own_set (i := 7) (j := 8) rfl hi] at V3
      exact K8 h3 (KK.wr W3 (Or.inl (List.mem_singleton.mpr rfl))) V3
  have K6 : ∀ h, Keep h1 h [ca] → Arv Z h ca kC .char (Int32.ofNat N) ((own_fill ws (y &&& 255) N 6).map Value.int) (.int 0) → Go p l e ({ frames := 5, cells := 3, slots := 36, locals := 69 } : Room) s m #[.ref wa, .int (Int32.ofNat N), .int (Int32.ofNat P), .int (y &&& 255)] below meth c Z "com/example/llave/llave/policy/ObjectiveOfPinLaw" n0 (Bn s) (EnN s ({ frames := 5, cells := 3, slots := 36, locals := 69 } : Room) n0 (fun v h => ∃ a t kb, v = some (.ref a) ∧ Keep h0 h [] ∧ Str Z h a t kb ((own_fill ws (y &&& 255) N 16).set P (y &&& 255)))) h 1 16 94 #[.val (.ref wa), .val (.int (Int32.ofNat N)), .val (.int (Int32.ofNat P)), .val (.int (y &&& 255)), .val (.ref ca)] [] := by
    intro h2 KK VV
    refine Go.iloadN C d22_94 rfl (pc' := 95) rfl ?_
    refine Go.bipush C d22_95 (v := 6) rfl (pc' := 97) rfl ?_
    refine Go.icmp_le C d22_97 (by decide) (pc1 := 112) (by decide) (pc2 := 100) rfl (fun hc => ?_) (fun hc => ?_)
    · exact K7 h2 KK (by rw [own_skip (i := 6) (j := 7) rfl (Nat.le_of_not_lt fun q => hc ((own_lt6 N hN).mpr q))]; exact VV)
    · have hi : 6 < N := (own_lt6 N hN).mp hc
      have O2 := O1.keep KK (allS nca all0)
      have S2 := S1.keep KK wn tn
      refine Go.aload C d22_100 rfl rfl (pc' := 102) rfl ?_
      refine Go.bipush C d22_102 (v := 6) rfl (pc' := 104) rfl ?_
      refine Go.aloadN C d22_104 rfl rfl (pc' := 105) rfl ?_
      refine Go.bipush C d22_105 (v := 6) rfl (pc' := 107) rfl ?_
      refine Go.iloadN C d22_107 rfl (pc' := 108) rfl ?_
      show Go p l e ({ frames := 5, cells := 3, slots := 36, locals := 69 } : Room) s m #[.ref wa, .int (Int32.ofNat N), .int (Int32.ofNat P), .int (y &&& 255)] below meth c Z "com/example/llave/llave/policy/ObjectiveOfPinLaw" n0 (Bn s) (EnN s ({ frames := 5, cells := 3, slots := 36, locals := 69 } : Room) n0 (fun v h => ∃ a t kb, v = some (.ref a) ∧ Keep h0 h [] ∧ Str Z h a t kb ((own_fill ws (y &&& 255) N 16).set P (y &&& 255)))) h2 1 16 108 #[.val (.ref wa), .val (.int (Int32.ofNat N)), .val (.int (Int32.ofNat P)), .val (.int (y &&& 255)), .val (.ref ca)] [(.int (y &&& 255)), (.int (Int32.ofNat 6)), (.ref wa), (.int (6 : Int32)), (.ref ca)]
      refine Go.callS C d22_108 (hw _ (List.mem_of_getElem? (i := 30) rfl)) (hw _ (List.mem_of_getElem? (i := 31) rfl)) (hw _ (List.mem_of_getElem? (i := 27) rfl)) (hw _ (List.mem_of_getElem? (i := 32) rfl)) (by decide) (argsL := [(.ref wa), (.int (Int32.ofNat 6)), (.int (y &&& 255))]) (rest := [(.int (6 : Int32)), (.ref ca)]) rfl (lenOf pd__Ljava_lang_String_IC_C rfl) rfl (W := 2) (Nat.le_of_ble_eq_true rfl) (Ct.pay (rm_at l Z a0 hw wa wt wk ws 6 y z fm h2 n0 S2 (by decide) hl St hz Fm rf O2) (hw _ (List.mem_of_getElem? (i := 32) rfl)) (hw _ (List.mem_of_getElem? (i := 27) rfl)) (by decide) (by decide)) (fun _ _ _ q => q.2) (by decide) (by decide) (fun _ _ _ _ _ q => q) (pc' := 111) rfl ?_
      rintro _ _ L1 ⟨⟨rfl, rfl⟩, -⟩
      show Go p l e ({ frames := 5, cells := 3, slots := 36, locals := 69 } : Room) s m #[.ref wa, .int (Int32.ofNat N), .int (Int32.ofNat P), .int (y &&& 255)] below meth c Z "com/example/llave/llave/policy/ObjectiveOfPinLaw" n0 (Bn s) (EnN s ({ frames := 5, cells := 3, slots := 36, locals := 69 } : Room) n0 (fun v h => ∃ a t kb, v = some (.ref a) ∧ Keep h0 h [] ∧ Str Z h a t kb ((own_fill ws (y &&& 255) N 16).set P (y &&& 255)))) _ _ _ 111 #[.val (.ref wa), .val (.int (Int32.ofNat N)), .val (.int (Int32.ofNat P)), .val (.int (y &&& 255)), .val (.ref ca)] [(.int (own_at ws (y &&& 255) 6)), (.int (6 : Int32)), (.ref ca)]
      refine Go.castoreV C d22_111 VV (by decide) hc 6 (by decide) (by rw [List.length_map, own_len]; exact hi) nca (fun _ _ _ q => q) (pc' := 112) rfl ?_
      intro h3 W3 V3
      rw [own_nr (own_atr S.2.2.2.2.1 y 6), own_set (i := 6) (j := 7) rfl hi] at V3
      exact K7 h3 (KK.wr W3 (Or.inl (List.mem_singleton.mpr rfl))) V3
  have K5 : ∀ h, Keep h1 h [ca] → Arv Z h ca kC .char (Int32.ofNat N) ((own_fill ws (y &&& 255) N 5).map Value.int) (.int 0) → Go p l e ({ frames := 5, cells := 3, slots := 36, locals := 69 } : Room) s m #[.ref wa, .int (Int32.ofNat N), .int (Int32.ofNat P), .int (y &&& 255)] below meth c Z "com/example/llave/llave/policy/ObjectiveOfPinLaw" n0 (Bn s) (EnN s ({ frames := 5, cells := 3, slots := 36, locals := 69 } : Room) n0 (fun v h => ∃ a t kb, v = some (.ref a) ∧ Keep h0 h [] ∧ Str Z h a t kb ((own_fill ws (y &&& 255) N 16).set P (y &&& 255)))) h 1 16 79 #[.val (.ref wa), .val (.int (Int32.ofNat N)), .val (.int (Int32.ofNat P)), .val (.int (y &&& 255)), .val (.ref ca)] [] := by
    intro h2 KK VV
    refine Go.iloadN C d22_79 rfl (pc' := 80) rfl ?_
    refine Go.iconst C d22_80 (v := 5) rfl (pc' := 81) rfl ?_
    refine Go.icmp_le C d22_81 (by decide) (pc1 := 94) (by decide) (pc2 := 84) rfl (fun hc => ?_) (fun hc => ?_)
    · exact K6 h2 KK (by rw [own_skip (i := 5) (j := 6) rfl (Nat.le_of_not_lt fun q => hc ((own_lt5 N hN).mpr q))]; exact VV)
    · have hi : 5 < N := (own_lt5 N hN).mp hc
      have O2 := O1.keep KK (allS nca all0)
      have S2 := S1.keep KK wn tn
      refine Go.aload C d22_84 rfl rfl (pc' := 86) rfl ?_
      refine Go.iconst C d22_86 (v := 5) rfl (pc' := 87) rfl ?_
      refine Go.aloadN C d22_87 rfl rfl (pc' := 88) rfl ?_
      refine Go.iconst C d22_88 (v := 5) rfl (pc' := 89) rfl ?_
      refine Go.iloadN C d22_89 rfl (pc' := 90) rfl ?_
      show Go p l e ({ frames := 5, cells := 3, slots := 36, locals := 69 } : Room) s m #[.ref wa, .int (Int32.ofNat N), .int (Int32.ofNat P), .int (y &&& 255)] below meth c Z "com/example/llave/llave/policy/ObjectiveOfPinLaw" n0 (Bn s) (EnN s ({ frames := 5, cells := 3, slots := 36, locals := 69 } : Room) n0 (fun v h => ∃ a t kb, v = some (.ref a) ∧ Keep h0 h [] ∧ Str Z h a t kb ((own_fill ws (y &&& 255) N 16).set P (y &&& 255)))) h2 1 16 90 #[.val (.ref wa), .val (.int (Int32.ofNat N)), .val (.int (Int32.ofNat P)), .val (.int (y &&& 255)), .val (.ref ca)] [(.int (y &&& 255)), (.int (Int32.ofNat 5)), (.ref wa), (.int (5 : Int32)), (.ref ca)]
      refine Go.callS C d22_90 (hw _ (List.mem_of_getElem? (i := 30) rfl)) (hw _ (List.mem_of_getElem? (i := 31) rfl)) (hw _ (List.mem_of_getElem? (i := 27) rfl)) (hw _ (List.mem_of_getElem? (i := 32) rfl)) (by decide) (argsL := [(.ref wa), (.int (Int32.ofNat 5)), (.int (y &&& 255))]) (rest := [(.int (5 : Int32)), (.ref ca)]) rfl (lenOf pd__Ljava_lang_String_IC_C rfl) rfl (W := 2) (Nat.le_of_ble_eq_true rfl) (Ct.pay (rm_at l Z a0 hw wa wt wk ws 5 y z fm h2 n0 S2 (by decide) hl St hz Fm rf O2) (hw _ (List.mem_of_getElem? (i := 32) rfl)) (hw _ (List.mem_of_getElem? (i := 27) rfl)) (by decide) (by decide)) (fun _ _ _ q => q.2) (by decide) (by decide) (fun _ _ _ _ _ q => q) (pc' := 93) rfl ?_
      rintro _ _ L1 ⟨⟨rfl, rfl⟩, -⟩
      show Go p l e ({ frames := 5, cells := 3, slots := 36, locals := 69 } : Room) s m #[.ref wa, .int (Int32.ofNat N), .int (Int32.ofNat P), .int (y &&& 255)] below meth c Z "com/example/llave/llave/policy/ObjectiveOfPinLaw" n0 (Bn s) (EnN s ({ frames := 5, cells := 3, slots := 36, locals := 69 } : Room) n0 (fun v h => ∃ a t kb, v = some (.ref a) ∧ Keep h0 h [] ∧ Str Z h a t kb ((own_fill ws (y &&& 255) N 16).set P (y &&& 255)))) _ _ _ 93 #[.val (.ref wa), .val (.int (Int32.ofNat N)), .val (.int (Int32.ofNat P)), .val (.int (y &&& 255)), .val (.ref ca)] [(.int (own_at ws (y &&& 255) 5)), (.int (5 : Int32)), (.ref ca)]
      refine Go.castoreV C d22_93 VV (by decide) hc 5 (by decide) (by rw [List.length_map, own_len]; exact hi) nca (fun _ _ _ q => q) (pc' := 94) rfl ?_
      intro h3 W3 V3
      rw [own_nr (own_atr S.2.2.2.2.1 y 5), own_set (i := 5) (j := 6) rfl hi] at V3
      exact K6 h3 (KK.wr W3 (Or.inl (List.mem_singleton.mpr rfl))) V3
  have K4 : ∀ h, Keep h1 h [ca] → Arv Z h ca kC .char (Int32.ofNat N) ((own_fill ws (y &&& 255) N 4).map Value.int) (.int 0) → Go p l e ({ frames := 5, cells := 3, slots := 36, locals := 69 } : Room) s m #[.ref wa, .int (Int32.ofNat N), .int (Int32.ofNat P), .int (y &&& 255)] below meth c Z "com/example/llave/llave/policy/ObjectiveOfPinLaw" n0 (Bn s) (EnN s ({ frames := 5, cells := 3, slots := 36, locals := 69 } : Room) n0 (fun v h => ∃ a t kb, v = some (.ref a) ∧ Keep h0 h [] ∧ Str Z h a t kb ((own_fill ws (y &&& 255) N 16).set P (y &&& 255)))) h 1 16 64 #[.val (.ref wa), .val (.int (Int32.ofNat N)), .val (.int (Int32.ofNat P)), .val (.int (y &&& 255)), .val (.ref ca)] [] := by
    intro h2 KK VV
    refine Go.iloadN C d22_64 rfl (pc' := 65) rfl ?_
    refine Go.iconst C d22_65 (v := 4) rfl (pc' := 66) rfl ?_
    refine Go.icmp_le C d22_66 (by decide) (pc1 := 79) (by decide) (pc2 := 69) rfl (fun hc => ?_) (fun hc => ?_)
    · exact K5 h2 KK (by rw [own_skip (i := 4) (j := 5) rfl (Nat.le_of_not_lt fun q => hc ((own_lt4 N hN).mpr q))]; exact VV)
    · have hi : 4 < N := (own_lt4 N hN).mp hc
      have O2 := O1.keep KK (allS nca all0)
      have S2 := S1.keep KK wn tn
      refine Go.aload C d22_69 rfl rfl (pc' := 71) rfl ?_
      refine Go.iconst C d22_71 (v := 4) rfl (pc' := 72) rfl ?_
      refine Go.aloadN C d22_72 rfl rfl (pc' := 73) rfl ?_
      refine Go.iconst C d22_73 (v := 4) rfl (pc' := 74) rfl ?_
      refine Go.iloadN C d22_74 rfl (pc' := 75) rfl ?_
      show Go p l e ({ frames := 5, cells := 3, slots := 36, locals := 69 } : Room) s m #[.ref wa, .int (Int32.ofNat N), .int (Int32.ofNat P), .int (y &&& 255)] below meth c Z "com/example/llave/llave/policy/ObjectiveOfPinLaw" n0 (Bn s) (EnN s ({ frames := 5, cells := 3, slots := 36, locals := 69 } : Room) n0 (fun v h => ∃ a t kb, v = some (.ref a) ∧ Keep h0 h [] ∧ Str Z h a t kb ((own_fill ws (y &&& 255) N 16).set P (y &&& 255)))) h2 1 16 75 #[.val (.ref wa), .val (.int (Int32.ofNat N)), .val (.int (Int32.ofNat P)), .val (.int (y &&& 255)), .val (.ref ca)] [(.int (y &&& 255)), (.int (Int32.ofNat 4)), (.ref wa), (.int (4 : Int32)), (.ref ca)]
      refine Go.callS C d22_75 (hw _ (List.mem_of_getElem? (i := 30) rfl)) (hw _ (List.mem_of_getElem? (i := 31) rfl)) (hw _ (List.mem_of_getElem? (i := 27) rfl)) (hw _ (List.mem_of_getElem? (i := 32) rfl)) (by decide) (argsL := [(.ref wa), (.int (Int32.ofNat 4)), (.int (y &&& 255))]) (rest := [(.int (4 : Int32)), (.ref ca)]) rfl (lenOf pd__Ljava_lang_String_IC_C rfl) rfl (W := 2) (Nat.le_of_ble_eq_true rfl) (Ct.pay (rm_at l Z a0 hw wa wt wk ws 4 y z fm h2 n0 S2 (by decide) hl St hz Fm rf O2) (hw _ (List.mem_of_getElem? (i := 32) rfl)) (hw _ (List.mem_of_getElem? (i := 27) rfl)) (by decide) (by decide)) (fun _ _ _ q => q.2) (by decide) (by decide) (fun _ _ _ _ _ q => q) (pc' := 78) rfl ?_
      rintro _ _ L1 ⟨⟨rfl, rfl⟩, -⟩
      show Go p l e ({ frames := 5, cells := 3, slots := 36, locals := 69 } : Room) s m #[.ref wa, .int (Int32.ofNat N), .int (Int32.ofNat P), .int (y &&& 255)] below meth c Z "com/example/llave/llave/policy/ObjectiveOfPinLaw" n0 (Bn s) (EnN s ({ frames := 5, cells := 3, slots := 36, locals := 69 } : Room) n0 (fun v h => ∃ a t kb, v = some (.ref a) ∧ Keep h0 h [] ∧ Str Z h a t kb ((own_fill ws (y &&& 255) N 16).set P (y &&& 255)))) _ _ _ 78 #[.val (.ref wa), .val (.int (Int32.ofNat N)), .val (.int (Int32.ofNat P)), .val (.int (y &&& 255)), .val (.ref ca)] [(.int (own_at ws (y &&& 255) 4)), (.int (4 : Int32)), (.ref ca)]
      refine Go.castoreV C d22_78 VV (by decide) hc 4 (by decide) (by rw [List.length_map, own_len]; exact hi) nca (fun _ _ _ q => q) (pc' := 79) rfl ?_
      intro h3 W3 V3
      rw [own_nr (own_atr S.2.2.2.2.1 y 4), own_set (i := 4) (j := 5) rfl hi] at V3
      exact K5 h3 (KK.wr W3 (Or.inl (List.mem_singleton.mpr rfl))) V3
  have K3 : ∀ h, Keep h1 h [ca] → Arv Z h ca kC .char (Int32.ofNat N) ((own_fill ws (y &&& 255) N 3).map Value.int) (.int 0) → Go p l e ({ frames := 5, cells := 3, slots := 36, locals := 69 } : Room) s m #[.ref wa, .int (Int32.ofNat N), .int (Int32.ofNat P), .int (y &&& 255)] below meth c Z "com/example/llave/llave/policy/ObjectiveOfPinLaw" n0 (Bn s) (EnN s ({ frames := 5, cells := 3, slots := 36, locals := 69 } : Room) n0 (fun v h => ∃ a t kb, v = some (.ref a) ∧ Keep h0 h [] ∧ Str Z h a t kb ((own_fill ws (y &&& 255) N 16).set P (y &&& 255)))) h 1 16 49 #[.val (.ref wa), .val (.int (Int32.ofNat N)), .val (.int (Int32.ofNat P)), .val (.int (y &&& 255)), .val (.ref ca)] [] := by
    intro h2 KK VV
    refine Go.iloadN C d22_49 rfl (pc' := 50) rfl ?_
    refine Go.iconst C d22_50 (v := 3) rfl (pc' := 51) rfl ?_
    refine Go.icmp_le C d22_51 (by decide) (pc1 := 64) (by decide) (pc2 := 54) rfl (fun hc => ?_) (fun hc => ?_)
    · exact K4 h2 KK (by rw [own_skip (i := 3) (j := 4) rfl (Nat.le_of_not_lt fun q => hc ((own_lt3 N hN).mpr q))]; exact VV)
    · have hi : 3 < N := (own_lt3 N hN).mp hc
      have O2 := O1.keep KK (allS nca all0)
      have S2 := S1.keep KK wn tn
      refine Go.aload C d22_54 rfl rfl (pc' := 56) rfl ?_
      refine Go.iconst C d22_56 (v := 3) rfl (pc' := 57) rfl ?_
      refine Go.aloadN C d22_57 rfl rfl (pc' := 58) rfl ?_
      refine Go.iconst C d22_58 (v := 3) rfl (pc' := 59) rfl ?_
      refine Go.iloadN C d22_59 rfl (pc' := 60) rfl ?_
      show Go p l e ({ frames := 5, cells := 3, slots := 36, locals := 69 } : Room) s m #[.ref wa, .int (Int32.ofNat N), .int (Int32.ofNat P), .int (y &&& 255)] below meth c Z "com/example/llave/llave/policy/ObjectiveOfPinLaw" n0 (Bn s) (EnN s ({ frames := 5, cells := 3, slots := 36, locals := 69 } : Room) n0 (fun v h => ∃ a t kb, v = some (.ref a) ∧ Keep h0 h [] ∧ Str Z h a t kb ((own_fill ws (y &&& 255) N 16).set P (y &&& 255)))) h2 1 16 60 #[.val (.ref wa), .val (.int (Int32.ofNat N)), .val (.int (Int32.ofNat P)), .val (.int (y &&& 255)), .val (.ref ca)] [(.int (y &&& 255)), (.int (Int32.ofNat 3)), (.ref wa), (.int (3 : Int32)), (.ref ca)]
      refine Go.callS C d22_60 (hw _ (List.mem_of_getElem? (i := 30) rfl)) (hw _ (List.mem_of_getElem? (i := 31) rfl)) (hw _ (List.mem_of_getElem? (i := 27) rfl)) (hw _ (List.mem_of_getElem? (i := 32) rfl)) (by decide) (argsL := [(.ref wa), (.int (Int32.ofNat 3)), (.int (y &&& 255))]) (rest := [(.int (3 : Int32)), (.ref ca)]) rfl (lenOf pd__Ljava_lang_String_IC_C rfl) rfl (W := 2) (Nat.le_of_ble_eq_true rfl) (Ct.pay (rm_at l Z a0 hw wa wt wk ws 3 y z fm h2 n0 S2 (by decide) hl St hz Fm rf O2) (hw _ (List.mem_of_getElem? (i := 32) rfl)) (hw _ (List.mem_of_getElem? (i := 27) rfl)) (by decide) (by decide)) (fun _ _ _ q => q.2) (by decide) (by decide) (fun _ _ _ _ _ q => q) (pc' := 63) rfl ?_
      rintro _ _ L1 ⟨⟨rfl, rfl⟩, -⟩
      show Go p l e ({ frames := 5, cells := 3, slots := 36, locals := 69 } : Room) s m #[.ref wa, .int (Int32.ofNat N), .int (Int32.ofNat P), .int (y &&& 255)] below meth c Z "com/example/llave/llave/policy/ObjectiveOfPinLaw" n0 (Bn s) (EnN s ({ frames := 5, cells := 3, slots := 36, locals := 69 } : Room) n0 (fun v h => ∃ a t kb, v = some (.ref a) ∧ Keep h0 h [] ∧ Str Z h a t kb ((own_fill ws (y &&& 255) N 16).set P (y &&& 255)))) _ _ _ 63 #[.val (.ref wa), .val (.int (Int32.ofNat N)), .val (.int (Int32.ofNat P)), .val (.int (y &&& 255)), .val (.ref ca)] [(.int (own_at ws (y &&& 255) 3)), (.int (3 : Int32)), (.ref ca)]
      refine Go.castoreV C d22_63 VV (by decide) hc 3 (by decide) (by rw [List.length_map, own_len]; exact hi) nca (fun _ _ _ q => q) (pc' := 64) rfl ?_
      intro h3 W3 V3
      rw [own_nr (own_atr S.2.2.2.2.1 y 3), own_set (i := 3) (j := 4) rfl hi] at V3
      exact K4 h3 (KK.wr W3 (Or.inl (List.mem_singleton.mpr rfl))) V3
  have K2 : ∀ h, Keep h1 h [ca] → Arv Z h ca kC .char (Int32.ofNat N) ((own_fill ws (y &&& 255) N 2).map Value.int) (.int 0) → Go p l e ({ frames := 5, cells := 3, slots := 36, locals := 69 } : Room) s m #[.ref wa, .int (Int32.ofNat N), .int (Int32.ofNat P), .int (y &&& 255)] below meth c Z "com/example/llave/llave/policy/ObjectiveOfPinLaw" n0 (Bn s) (EnN s ({ frames := 5, cells := 3, slots := 36, locals := 69 } : Room) n0 (fun v h => ∃ a t kb, v = some (.ref a) ∧ Keep h0 h [] ∧ Str Z h a t kb ((own_fill ws (y &&& 255) N 16).set P (y &&& 255)))) h 1 16 34 #[.val (.ref wa), .val (.int (Int32.ofNat N)), .val (.int (Int32.ofNat P)), .val (.int (y &&& 255)), .val (.ref ca)] [] := by
    intro h2 KK VV
    refine Go.iloadN C d22_34 rfl (pc' := 35) rfl ?_
    refine Go.iconst C d22_35 (v := 2) rfl (pc' := 36) rfl ?_
    refine Go.icmp_le C d22_36 (by decide) (pc1 := 49) (by decide) (pc2 := 39) rfl (fun hc => ?_) (fun hc => ?_)
    · exact K3 h2 KK (by rw [own_skip (i := 2) (j := 3) rfl (Nat.le_of_not_lt fun q => hc ((own_lt2 N hN).mpr q))]; exact VV)
    · have hi : 2 < N := (own_lt2 N hN).mp hc
      have O2 := O1.keep KK (allS nca all0)
      have S2 := S1.keep KK wn tn
      refine Go.aload C d22_39 rfl rfl (pc' := 41) rfl ?_
      refine Go.iconst C d22_41 (v := 2) rfl (pc' := 42) rfl ?_
      refine Go.aloadN C d22_42 rfl rfl (pc' := 43) rfl ?_
      refine Go.iconst C d22_43 (v := 2) rfl (pc' := 44) rfl ?_
      refine Go.iloadN C d22_44 rfl (pc' := 45) rfl ?_
      show Go p l e ({ frames := 5, cells := 3, slots := 36, locals := 69 } : Room) s m #[.ref wa, .int (Int32.ofNat N), .int (Int32.ofNat P), .int (y &&& 255)] below meth c Z "com/example/llave/llave/policy/ObjectiveOfPinLaw" n0 (Bn s) (EnN s ({ frames := 5, cells := 3, slots := 36, locals := 69 } : Room) n0 (fun v h => ∃ a t kb, v = some (.ref a) ∧ Keep h0 h [] ∧ Str Z h a t kb ((own_fill ws (y &&& 255) N 16).set P (y &&& 255)))) h2 1 16 45 #[.val (.ref wa), .val (.int (Int32.ofNat N)), .val (.int (Int32.ofNat P)), .val (.int (y &&& 255)), .val (.ref ca)] [(.int (y &&& 255)), (.int (Int32.ofNat 2)), (.ref wa), (.int (2 : Int32)), (.ref ca)]
      refine Go.callS C d22_45 (hw _ (List.mem_of_getElem? (i := 30) rfl)) (hw _ (List.mem_of_getElem? (i := 31) rfl)) (hw _ (List.mem_of_getElem? (i := 27) rfl)) (hw _ (List.mem_of_getElem? (i := 32) rfl)) (by decide) (argsL := [(.ref wa), (.int (Int32.ofNat 2)), (.int (y &&& 255))]) (rest := [(.int (2 : Int32)), (.ref ca)]) rfl (lenOf pd__Ljava_lang_String_IC_C rfl) rfl (W := 2) (Nat.le_of_ble_eq_true rfl) (Ct.pay (rm_at l Z a0 hw wa wt wk ws 2 y z fm h2 n0 S2 (by decide) hl St hz Fm rf O2) (hw _ (List.mem_of_getElem? (i := 32) rfl)) (hw _ (List.mem_of_getElem? (i := 27) rfl)) (by decide) (by decide)) (fun _ _ _ q => q.2) (by decide) (by decide) (fun _ _ _ _ _ q => q) (pc' := 48) rfl ?_
      rintro _ _ L1 ⟨⟨rfl, rfl⟩, -⟩
      show Go p l e ({ frames := 5, cells := 3, slots := 36, locals := 69 } : Room) s m #[.ref wa, .int (Int32.ofNat N), .int (Int32.ofNat P), .int (y &&& 255)] below meth c Z "com/example/llave/llave/policy/ObjectiveOfPinLaw" n0 (Bn s) (EnN s ({ frames := 5, cells := 3, slots := 36, locals := 69 } : Room) n0 (fun v h => ∃ a t kb, v = some (.ref a) ∧ Keep h0 h [] ∧ Str Z h a t kb ((own_fill ws (y &&& 255) N 16).set P (y &&& 255)))) _ _ _ 48 #[.val (.ref wa), .val (.int (Int32.ofNat N)), .val (.int (Int32.ofNat P)), .val (.int (y &&& 255)), .val (.ref ca)] [(.int (own_at ws (y &&& 255) 2)), (.int (2 : Int32)), (.ref ca)]
      refine Go.castoreV C d22_48 VV (by decide) hc 2 (by decide) (by rw [List.length_map, own_len]; exact hi) nca (fun _ _ _ q => q) (pc' := 49) rfl ?_
      intro h3 W3 V3
      rw [own_nr (own_atr S.2.2.2.2.1 y 2), own_set (i := 2) (j := 3) rfl hi] at V3
      exact K3 h3 (KK.wr W3 (Or.inl (List.mem_singleton.mpr rfl))) V3
  have K1 : ∀ h, Keep h1 h [ca] → Arv Z h ca kC .char (Int32.ofNat N) ((own_fill ws (y &&& 255) N 1).map Value.int) (.int 0) → Go p l e ({ frames := 5, cells := 3, slots := 36, locals := 69 } : Room) s m #[.ref wa, .int (Int32.ofNat N), .int (Int32.ofNat P), .int (y &&& 255)] below meth c Z "com/example/llave/llave/policy/ObjectiveOfPinLaw" n0 (Bn s) (EnN s ({ frames := 5, cells := 3, slots := 36, locals := 69 } : Room) n0 (fun v h => ∃ a t kb, v = some (.ref a) ∧ Keep h0 h [] ∧ Str Z h a t kb ((own_fill ws (y &&& 255) N 16).set P (y &&& 255)))) h 1 16 19 #[.val (.ref wa), .val (.int (Int32.ofNat N)), .val (.int (Int32.ofNat P)), .val (.int (y &&& 255)), .val (.ref ca)] [] := by
    intro h2 KK VV
    refine Go.iloadN C d22_19 rfl (pc' := 20) rfl ?_
    refine Go.iconst C d22_20 (v := 1) rfl (pc' := 21) rfl ?_
    refine Go.icmp_le C d22_21 (by decide) (pc1 := 34) (by decide) (pc2 := 24) rfl (fun hc => ?_) (fun hc => ?_)
    · exact K2 h2 KK (by rw [own_skip (i := 1) (j := 2) rfl (Nat.le_of_not_lt fun q => hc ((own_lt1 N hN).mpr q))]; exact VV)
    · have hi : 1 < N := (own_lt1 N hN).mp hc
      have O2 := O1.keep KK (allS nca all0)
      have S2 := S1.keep KK wn tn
      refine Go.aload C d22_24 rfl rfl (pc' := 26) rfl ?_
      refine Go.iconst C d22_26 (v := 1) rfl (pc' := 27) rfl ?_
      refine Go.aloadN C d22_27 rfl rfl (pc' := 28) rfl ?_
      refine Go.iconst C d22_28 (v := 1) rfl (pc' := 29) rfl ?_
      refine Go.iloadN C d22_29 rfl (pc' := 30) rfl ?_
      show Go p l e ({ frames := 5, cells := 3, slots := 36, locals := 69 } : Room) s m #[.ref wa, .int (Int32.ofNat N), .int (Int32.ofNat P), .int (y &&& 255)] below meth c Z "com/example/llave/llave/policy/ObjectiveOfPinLaw" n0 (Bn s) (EnN s ({ frames := 5, cells := 3, slots := 36, locals := 69 } : Room) n0 (fun v h => ∃ a t kb, v = some (.ref a) ∧ Keep h0 h [] ∧ Str Z h a t kb ((own_fill ws (y &&& 255) N 16).set P (y &&& 255)))) h2 1 16 30 #[.val (.ref wa), .val (.int (Int32.ofNat N)), .val (.int (Int32.ofNat P)), .val (.int (y &&& 255)), .val (.ref ca)] [(.int (y &&& 255)), (.int (Int32.ofNat 1)), (.ref wa), (.int (1 : Int32)), (.ref ca)]
      refine Go.callS C d22_30 (hw _ (List.mem_of_getElem? (i := 30) rfl)) (hw _ (List.mem_of_getElem? (i := 31) rfl)) (hw _ (List.mem_of_getElem? (i := 27) rfl)) (hw _ (List.mem_of_getElem? (i := 32) rfl)) (by decide) (argsL := [(.ref wa), (.int (Int32.ofNat 1)), (.int (y &&& 255))]) (rest := [(.int (1 : Int32)), (.ref ca)]) rfl (lenOf pd__Ljava_lang_String_IC_C rfl) rfl (W := 2) (Nat.le_of_ble_eq_true rfl) (Ct.pay (rm_at l Z a0 hw wa wt wk ws 1 y z fm h2 n0 S2 (by decide) hl St hz Fm rf O2) (hw _ (List.mem_of_getElem? (i := 32) rfl)) (hw _ (List.mem_of_getElem? (i := 27) rfl)) (by decide) (by decide)) (fun _ _ _ q => q.2) (by decide) (by decide) (fun _ _ _ _ _ q => q) (pc' := 33) rfl ?_
      rintro _ _ L1 ⟨⟨rfl, rfl⟩, -⟩
      show Go p l e ({ frames := 5, cells := 3, slots := 36, locals := 69 } : Room) s m #[.ref wa, .int (Int32.ofNat N), .int (Int32.ofNat P), .int (y &&& 255)] below meth c Z "com/example/llave/llave/policy/ObjectiveOfPinLaw" n0 (Bn s) (EnN s ({ frames := 5, cells := 3, slots := 36, locals := 69 } : Room) n0 (fun v h => ∃ a t kb, v = some (.ref a) ∧ Keep h0 h [] ∧ Str Z h a t kb ((own_fill ws (y &&& 255) N 16).set P (y &&& 255)))) _ _ _ 33 #[.val (.ref wa), .val (.int (Int32.ofNat N)), .val (.int (Int32.ofNat P)), .val (.int (y &&& 255)), .val (.ref ca)] [(.int (own_at ws (y &&& 255) 1)), (.int (1 : Int32)), (.ref ca)]
      refine Go.castoreV C d22_33 VV (by decide) hc 1 (by decide) (by rw [List.length_map, own_len]; exact hi) nca (fun _ _ _ q => q) (pc' := 34) rfl ?_
      intro h3 W3 V3
      rw [own_nr (own_atr S.2.2.2.2.1 y 1), own_set (i := 1) (j := 2) rfl hi] at V3
      exact K2 h3 (KK.wr W3 (Or.inl (List.mem_singleton.mpr rfl))) V3
  have K0 : ∀ h, Keep h1 h [ca] → Arv Z h ca kC .char (Int32.ofNat N) ((own_fill ws (y &&& 255) N 0).map Value.int) (.int 0) → Go p l e ({ frames := 5, cells := 3, slots := 36, locals := 69 } : Room) s m #[.ref wa, .int (Int32.ofNat N), .int (Int32.ofNat P), .int (y &&& 255)] below meth c Z "com/example/llave/llave/policy/ObjectiveOfPinLaw" n0 (Bn s) (EnN s ({ frames := 5, cells := 3, slots := 36, locals := 69 } : Room) n0 (fun v h => ∃ a t kb, v = some (.ref a) ∧ Keep h0 h [] ∧ Str Z h a t kb ((own_fill ws (y &&& 255) N 16).set P (y &&& 255)))) h 1 16 5 #[.val (.ref wa), .val (.int (Int32.ofNat N)), .val (.int (Int32.ofNat P)), .val (.int (y &&& 255)), .val (.ref ca)] [] := by
    intro h2 KK VV
    refine Go.iloadN C d22_5 rfl (pc' := 6) rfl ?_
    refine Go.if_le C d22_6 (by decide) (pc1 := 19) (by decide) (pc2 := 9) rfl (fun hc => ?_) (fun hc => ?_)
    · exact K1 h2 KK (by rw [own_skip (i := 0) (j := 1) rfl (Nat.le_of_not_lt fun q => hc ((own_lt0 N hN).mpr q))]; exact VV)
    · have hi : 0 < N := (own_lt0 N hN).mp hc
      have O2 := O1.keep KK (allS nca all0)
      have S2 := S1.keep KK wn tn
      refine Go.aload C d22_9 rfl rfl (pc' := 11) rfl ?_
      refine Go.iconst C d22_11 (v := 0) rfl (pc' := 12) rfl ?_
      refine Go.aloadN C d22_12 rfl rfl (pc' := 13) rfl ?_
      refine Go.iconst C d22_13 (v := 0) rfl (pc' := 14) rfl ?_
      refine Go.iloadN C d22_14 rfl (pc' := 15) rfl ?_
      show Go p l e ({ frames := 5, cells := 3, slots := 36, locals := 69 } : Room) s m #[.ref wa, .int (Int32.ofNat N), .int (Int32.ofNat P), .int (y &&& 255)] below meth c Z "com/example/llave/llave/policy/ObjectiveOfPinLaw" n0 (Bn s) (EnN s ({ frames := 5, cells := 3, slots := 36, locals := 69 } : Room) n0 (fun v h => ∃ a t kb, v = some (.ref a) ∧ Keep h0 h [] ∧ Str Z h a t kb ((own_fill ws (y &&& 255) N 16).set P (y &&& 255)))) h2 1 16 15 #[.val (.ref wa), .val (.int (Int32.ofNat N)), .val (.int (Int32.ofNat P)), .val (.int (y &&& 255)), .val (.ref ca)] [(.int (y &&& 255)), (.int (Int32.ofNat 0)), (.ref wa), (.int (0 : Int32)), (.ref ca)]
      refine Go.callS C d22_15 (hw _ (List.mem_of_getElem? (i := 30) rfl)) (hw _ (List.mem_of_getElem? (i := 31) rfl)) (hw _ (List.mem_of_getElem? (i := 27) rfl)) (hw _ (List.mem_of_getElem? (i := 32) rfl)) (by decide) (argsL := [(.ref wa), (.int (Int32.ofNat 0)), (.int (y &&& 255))]) (rest := [(.int (0 : Int32)), (.ref ca)]) rfl (lenOf pd__Ljava_lang_String_IC_C rfl) rfl (W := 2) (Nat.le_of_ble_eq_true rfl) (Ct.pay (rm_at l Z a0 hw wa wt wk ws 0 y z fm h2 n0 S2 (by decide) hl St hz Fm rf O2) (hw _ (List.mem_of_getElem? (i := 32) rfl)) (hw _ (List.mem_of_getElem? (i := 27) rfl)) (by decide) (by decide)) (fun _ _ _ q => q.2) (by decide) (by decide) (fun _ _ _ _ _ q => q) (pc' := 18) rfl ?_
      rintro _ _ L1 ⟨⟨rfl, rfl⟩, -⟩
      show Go p l e ({ frames := 5, cells := 3, slots := 36, locals := 69 } : Room) s m #[.ref wa, .int (Int32.ofNat N), .int (Int32.ofNat P), .int (y &&& 255)] below meth c Z "com/example/llave/llave/policy/ObjectiveOfPinLaw" n0 (Bn s) (EnN s ({ frames := 5, cells := 3, slots := 36, locals := 69 } : Room) n0 (fun v h => ∃ a t kb, v = some (.ref a) ∧ Keep h0 h [] ∧ Str Z h a t kb ((own_fill ws (y &&& 255) N 16).set P (y &&& 255)))) _ _ _ 18 #[.val (.ref wa), .val (.int (Int32.ofNat N)), .val (.int (Int32.ofNat P)), .val (.int (y &&& 255)), .val (.ref ca)] [(.int (own_at ws (y &&& 255) 0)), (.int (0 : Int32)), (.ref ca)]
      refine Go.castoreV C d22_18 VV (by decide) hc 0 (by decide) (by rw [List.length_map, own_len]; exact hi) nca (fun _ _ _ q => q) (pc' := 19) rfl ?_
      intro h3 W3 V3
      rw [own_nr (own_atr S.2.2.2.2.1 y 0), own_set (i := 0) (j := 1) rfl hi] at V3
      exact K1 h3 (KK.wr W3 (Or.inl (List.mem_singleton.mpr rfl))) V3
  exact K0 h1 (Keep.refl _ _) V1
set_option maxRecDepth 65536 in
set_option maxHeartbeats 40000000 in
theorem rm_empty (l : Launch) (Z : State) (a0 : Array Value) (hw : ∀ d ∈ tables_1, d.before a0 Z = true) (eo : Addr) (h0 : Heap) (n0 : Nat) (Se : Sta Z h0 "java/util/Optional" "EMPTY" "Ljava/util/Optional;" (.ref eo)) :
    Ct l Z (⟨"java/util/Optional", "empty", "()Ljava/util/Optional;"⟩ : MethodName) jdk_32_method_1_code 1 (some (.object "java/util/Optional")) [] ({ frames := 0, cells := 0, slots := 0, locals := 0 } : Room) #[] h0 n0 (fun v h => v = some (.ref eo) ∧ h0 = h) := by
  refine Ct.of (L0 := #[.unset]) (plainFor_of_name pn_java_util_Optional) (fun m => by first | (simp [entryFrame, mkF, argsToLocals, Value.category]; done) | rfl) ?_
  intro p e s m below meth c C hnm
  refine Go.getS C d17_0 (hw _ (List.mem_of_getElem? (i := 83) rfl)) Via.refl Se (pc' := 3) rfl ?_
  refine Go.astoreN C d17_3 rfl (L' := #[.val (.ref eo)]) rfl (pc' := 4) rfl ?_
  refine Go.aloadN C d17_4 rfl rfl (pc' := 5) rfl ?_
  refine Go.retA C rfl d17_5 rfl (by decide) (by decide) ?_
  exact ⟨rfl, rfl⟩
set_option maxRecDepth 65536 in
set_option maxHeartbeats 40000000 in
theorem rm_rnn (l : Launch) (Z : State) (a0 : Array Value) (hw : ∀ d ∈ tables_1, d.before a0 Z = true) (a1 : Addr) (h0 : Heap) (n0 : Nat)  :
    Ct l Z (⟨"java/util/Objects", "requireNonNull", "(Ljava/lang/Object;)Ljava/lang/Object;"⟩ : MethodName) jdk_31_method_10_code 1 (some (.object "java/lang/Object")) [] ({ frames := 0, cells := 0, slots := 0, locals := 0 } : Room) #[.ref a1] h0 n0 (fun v h => v = some (.ref a1) ∧ h0 = h) := by
  refine Ct.of (L0 := #[.val (.ref a1)]) (plainFor_of_name pn_java_util_Objects) (fun m => by first | (simp [entryFrame, mkF, argsToLocals, Value.category]; done) | rfl) ?_
  intro p e s m below meth c C hnm
  refine Go.aloadN C d24_0 rfl rfl (pc' := 1) rfl ?_
  refine Go.ifnonnull_t C d24_1 (by decide) (pc' := 12) (by decide) ?_
  refine Go.aloadN C d24_12 rfl rfl (pc' := 13) rfl ?_
  refine Go.retA C rfl d24_13 rfl (by decide) (by decide) ?_
  exact ⟨rfl, rfl⟩
set_option maxRecDepth 65536 in
set_option maxHeartbeats 40000000 in
theorem rm_oin (l : Launch) (Z : State) (a0 : Array Value) (hw : ∀ d ∈ tables_1, d.before a0 Z = true) (a1 b1 : Addr) (c0 : Value) (h0 : Heap) (n0 : Nat) (na : n0 ≤ a1) (E : Exa Z h0 a1 "java/util/Optional") (F : Fld Z h0 a1 "java/util/Optional" "value" "Ljava/lang/Object;" c0) :
    Ct l Z (⟨"java/util/Optional", "<init>", "(Ljava/lang/Object;)V"⟩ : MethodName) jdk_32_method_2_code 2 none [] ({ frames := 1, cells := 0, slots := 0, locals := 12 } : Room) #[.ref a1, .ref b1] h0 n0 (fun v h => v = none ∧ Keep h0 h [a1] ∧ Exa Z h a1 "java/util/Optional" ∧ Fld Z h a1 "java/util/Optional" "value" "Ljava/lang/Object;" (.ref b1)) := by
  refine Ct.of (L0 := #[.val (.ref a1), .val (.ref b1)]) (plainFor_of_name pn_java_util_Optional) (fun m => by first | (simp [entryFrame, mkF, argsToLocals, Value.category]; done) | rfl) ?_
  intro p e s m below meth c C hnm
  refine Go.aloadN C d25_0 rfl rfl (pc' := 1) rfl ?_
  refine Go.initO C d25_1 (hw _ (List.mem_of_getElem? (i := 140) rfl)) (hw _ (List.mem_of_getElem? (i := 64) rfl)) (hw _ (List.mem_of_getElem? (i := 65) rfl)) rfl (by decide) (by decide) (pc' := 4) rfl ?_
  refine Go.aloadN C d25_4 rfl rfl (pc' := 5) rfl ?_
  refine Go.aloadN C d25_5 rfl rfl (pc' := 6) rfl ?_
  refine Go.putF C d25_6 (hw _ (List.mem_of_getElem? (i := 117) rfl)) Via.refl F E (Or.inr ⟨(hw _ (List.mem_of_getElem? (i := 118) rfl)), rfl, hnm⟩) (hw _ (List.mem_of_getElem? (i := 131) rfl)) (ty := (.object "java/lang/Object")) (by decide) rfl rfl na (fun _ _ _ q => q) (pc' := 9) rfl ?_
  intro h1 W1
  refine Go.retV C d25_9 (by decide) (by decide) ?_
  exact ⟨rfl, (Keep.refl _ _).wr W1 (Or.inl (List.mem_singleton.mpr rfl)), E.wr W1, F.same W1⟩
set_option maxRecDepth 65536 in
set_option maxHeartbeats 40000000 in
theorem rm_oof (l : Launch) (Z : State) (a0 : Array Value) (hw : ∀ d ∈ tables_1, d.before a0 Z = true) (b1 : Addr) (h0 : Heap) (n0 : Nat) (Z0 : n0 ≤ h0.size) :
    Ct l Z (⟨"java/util/Optional", "of", "(Ljava/lang/Object;)Ljava/util/Optional;"⟩ : MethodName) jdk_32_method_3_code 1 (some (.object "java/util/Optional")) [] ({ frames := 2, cells := 1, slots := 1, locals := 26 } : Room) #[.ref b1] h0 n0 (fun v h => ∃ f, v = some (.ref f) ∧ Keep h0 h [] ∧ Exa Z h f "java/util/Optional" ∧ Fld Z h f "java/util/Optional" "value" "Ljava/lang/Object;" (.ref b1)) := by
  refine Ct.of (L0 := #[.val (.ref b1)]) (plainFor_of_name pn_java_util_Optional) (fun m => by first | (simp [entryFrame, mkF, argsToLocals, Value.category]; done) | rfl) ?_
  intro p e s m below meth c C hnm
  refine Go.newO C bnE d23_0 (hw _ (List.mem_of_getElem? (i := 130) rfl)) (hw _ (List.mem_of_getElem? (i := 131) rfl)) (hw _ (List.mem_of_getElem? (i := 81) rfl)) (by decide) (by decide) (pc' := 3) rfl ?_
  intro h1 E1 A1 D1 U1
  obtain ⟨f, e_f⟩ : ∃ a, a = h0.size := ⟨_, rfl⟩
  rw [← e_f] at A1 D1 U1 ⊢
  show Go p l e _ s m _ below meth c Z _ n0 _ _ _ _ _ 3 #[.val (.ref b1)] [(.ref f)]
  have nf : n0 ≤ f := e_f ▸ Z0
  have F1 := D1 (Or.inr (hw _ (List.mem_of_getElem? (i := 118) rfl))) (ty := (.object "java/lang/Object")) (by decide)
  refine Go.dup C d23_3 rfl (pc' := 4) rfl ?_
  refine Go.aloadN C d23_4 rfl rfl (pc' := 5) rfl ?_
  refine Go.callS C d23_5 (hw _ (List.mem_of_getElem? (i := 132) rfl)) (hw _ (List.mem_of_getElem? (i := 133) rfl)) (hw _ (List.mem_of_getElem? (i := 134) rfl)) (hw _ (List.mem_of_getElem? (i := 135) rfl)) (by decide) (argsL := [(.ref b1)]) (rest := [(.ref f), (.ref f)]) rfl (lenOf pd__Ljava_lang_Object__Ljava_lang_Object_ rfl) rfl (W := 2) (Nat.le_of_ble_eq_true rfl) (Ct.pay (rm_rnn l Z a0 hw b1 h1 n0) (hw _ (List.mem_of_getElem? (i := 135) rfl)) (hw _ (List.mem_of_getElem? (i := 134) rfl)) (by decide) (by decide)) (fun _ _ _ q => q.2) (by decide) (by decide) (fun _ _ _ _ _ q => q) (pc' := 8) rfl ?_
  rintro _ _ L1 ⟨⟨rfl, rfl⟩, -⟩
  show Go p l e _ s m _ below meth c Z _ n0 _ _ _ _ _ 8 #[.val (.ref b1)] [(.ref b1), (.ref f), (.ref f)]
  refine Go.callN C d23_8 rfl (hw _ (List.mem_of_getElem? (i := 136) rfl)) (hw _ (List.mem_of_getElem? (i := 137) rfl)) (hw _ (List.mem_of_getElem? (i := 139) rfl)) (by decide) (argsL := [(.ref b1)]) (rest := [(.ref f)]) rfl (lenOf pd__Ljava_lang_Object__V rfl) rfl (W := 1) (Nat.le_of_ble_eq_true rfl) (Ct.pay (rm_oin l Z a0 hw f b1 _ h1 n0 nf A1 F1) (hw _ (List.mem_of_getElem? (i := 139) rfl)) (hw _ (List.mem_of_getElem? (i := 81) rfl)) (by decide) (by decide)) (fun _ _ _ q => q.2) (by decide) (by decide) (fun _ _ _ _ _ q => q) (pc' := 11) rfl ?_
  rintro _ h2 L2 ⟨⟨rfl, K2, A2, F2⟩, -⟩
  show Go p l e _ s m _ below meth c Z _ n0 _ _ _ _ _ 11 #[.val (.ref b1)] [(.ref f)]
  refine Go.retA C rfl d23_11 rfl (by decide) (by decide) ?_
  exact ⟨f, rfl, ((Keep.refl _ _).ext E1).trans K2 (allS (Or.inr (Nat.le_of_eq e_f.symm)) all0), A2, F2⟩
set_option maxRecDepth 65536 in
set_option maxHeartbeats 40000000 in
theorem rm_els (l : Launch) (Z : State) (a0 : Array Value) (hw : ∀ d ∈ tables_1, d.before a0 Z = true) (a1 : Addr) (r : Value) (h0 : Heap) (n0 : Nat) (F : Fld Z h0 a1 "java/util/Optional" "value" "Ljava/lang/Object;" r) (hr : r = .null ∨ ∃ x, r = .ref x) :
    Ct l Z (⟨"java/util/Optional", "orElse", "(Ljava/lang/Object;)Ljava/lang/Object;"⟩ : MethodName) jdk_32_method_15_code 2 (some (.object "java/lang/Object")) [] ({ frames := 0, cells := 0, slots := 0, locals := 0 } : Room) #[.ref a1, .null] h0 n0 (fun v h => v = some r ∧ h0 = h) := by
  refine Ct.of (L0 := #[.val (.ref a1), .val .null]) (plainFor_of_name pn_java_util_Optional) (fun m => by first | (simp [entryFrame, mkF, argsToLocals, Value.category]; done) | rfl) ?_
  intro p e s m below meth c C hnm
  refine Go.aloadN C d21_0 rfl rfl (pc' := 1) rfl ?_
  rcases hr with rfl | ⟨x, rfl⟩
  · refine Go.getF C d21_1 (hw _ (List.mem_of_getElem? (i := 117) rfl)) Via.refl F (pc' := 4) rfl ?_
    refine Go.ifnull_t C d21_4 (by decide) (pc' := 14) (by decide) ?_
    refine Go.aloadN C d21_14 rfl rfl (pc' := 15) rfl ?_
    refine Go.retA C rfl d21_15 rfl (by decide) (by decide) ?_
    exact ⟨rfl, rfl⟩
  · refine Go.getF C d21_1 (hw _ (List.mem_of_getElem? (i := 117) rfl)) Via.refl F (pc' := 4) rfl ?_
    refine Go.ifnull_f C d21_4 (pc' := 7) rfl ?_
    refine Go.aloadN C d21_7 rfl rfl (pc' := 8) rfl ?_
    refine Go.getF C d21_8 (hw _ (List.mem_of_getElem? (i := 117) rfl)) Via.refl F (pc' := 11) rfl ?_
    refine Go.goto C d21_11 (by decide) (pc' := 15) (by decide) ?_
    refine Go.retA C rfl d21_15 rfl (by decide) (by decide) ?_
    exact ⟨rfl, rfl⟩
set_option maxRecDepth 65536 in
set_option maxHeartbeats 40000000 in
theorem rm_eqn (l : Launch) (Z : State) (a0 : Array Value) (hw : ∀ d ∈ tables_1, d.before a0 Z = true) (a1 : Addr) (h0 : Heap) (n0 : Nat)  :
    Ct l Z (⟨"java/lang/String", "equals", "(Ljava/lang/Object;)Z"⟩ : MethodName) jdk_42_method_66_code 3 (some .boolean) [] ({ frames := 0, cells := 0, slots := 0, locals := 0 } : Room) #[.ref a1, .null] h0 n0 (fun v h => v = some (.int 0) ∧ h0 = h) := by
  refine Ct.of (L0 := #[.val (.ref a1), .val .null, .unset]) (plainFor_of_name pn_java_lang_String) (fun m => by first | (simp [entryFrame, mkF, argsToLocals, Value.category]; done) | rfl) ?_
  intro p e s m below meth c C hnm
  refine Go.aloadN C d19_0 rfl rfl (pc' := 1) rfl ?_
  refine Go.aloadN C d19_1 rfl rfl (pc' := 2) rfl ?_
  refine Go.acmp_ne_t C d19_2 rfl rfl (fun q => nomatch q) (by decide) (pc' := 7) (by decide) ?_
  refine Go.aloadN C d19_7 rfl rfl (pc' := 8) rfl ?_
  refine Go.instNull C d19_8 (pc' := 11) rfl ?_
  refine Go.if_eq_t C d19_11 (by decide) (by decide) (pc' := 54) (by decide) ?_
  refine Go.iconst C d19_54 (v := 0) rfl (pc' := 55) rfl ?_
  refine Go.retN C (by simp) d19_55 (by decide) (by decide) ?_
  exact ⟨rfl, rfl⟩
set_option maxRecDepth 65536 in
set_option maxHeartbeats 40000000 in
theorem rm_values (l : Launch) (Z : State) (a0 : Array Value) (hw : ∀ d ∈ tables_1, d.before a0 Z = true) (o : Fin 3 → Addr) (va : Addr) (kA : ClassId) (h0 : Heap) (n0 : Nat) (Sv : Sta Z h0 "com/example/llave/llave/policy/Objective" "$VALUES" "[Lcom/example/llave/llave/policy/Objective;" (.ref va)) (V : Arv Z h0 va kA (.object "com/example/llave/llave/policy/Objective") (3 : Int32) [.ref (o 0), .ref (o 1), .ref (o 2)] .null) (E : Exa Z h0 va "[Lcom/example/llave/llave/policy/Objective;") :
    Ct l Z (⟨"com/example/llave/llave/policy/Objective", "values", "()[Lcom/example/llave/llave/policy/Objective;"⟩ : MethodName) prog_14_method_1_code 0 (some (.array (.object "com/example/llave/llave/policy/Objective"))) [] ({ frames := 1, cells := 1, slots := 3, locals := 14 } : Room) #[] h0 n0 (fun v h => ∃ a, v = some (.ref a) ∧ Ext h0 h ∧ Arv Z h a kA (.object "com/example/llave/llave/policy/Objective") (3 : Int32) [.ref (o 0), .ref (o 1), .ref (o 2)] .null) := by
  refine Ct.of (L0 := #[]) (plainFor_of_name pn_com_example_llave_llave_policy_Objective) (fun m => by first | (simp [entryFrame, mkF, argsToLocals, Value.category]; done) | rfl) ?_
  intro p e s m below meth c C hnm
  refine Go.getS C d18_0 (hw _ (List.mem_of_getElem? (i := 87) rfl)) Via.refl Sv (pc' := 3) rfl ?_
  refine Go.cloneV C bnE d18_3 (hw _ (List.mem_of_getElem? (i := 89) rfl)) (hw _ (List.mem_of_getElem? (i := 90) rfl)) (hw _ (List.mem_of_getElem? (i := 94) rfl)) (hw _ (List.mem_of_getElem? (i := 92) rfl)) (hw _ (List.mem_of_getElem? (i := 93) rfl)) (hw _ (List.mem_of_getElem? (i := 95) rfl)) V E rfl (by decide) (Nat.le_of_ble_eq_true rfl) (cap := 3) (by decide) (by decide) (by decide) (pc' := 6) rfl ?_
  intro h1 E1 V1 A1
  refine Go.castY C d18_6 (hw _ (List.mem_of_getElem? (i := 99) rfl)) (Ins.self A1) (pc' := 9) rfl ?_
  refine Go.retA C rfl d18_9 rfl (by decide) (by decide) ?_
  exact ⟨_, rfl, E1, V1⟩
set_option maxRecDepth 65536 in
set_option maxHeartbeats 40000000 in
theorem rm_ofs (l : Launch) (Z : State) (a0 : Array Value) (hw : ∀ d ∈ tables_1, d.before a0 Z = true) (sa ta : Addr) (ks : ClassId) (cs : List Int32) (T : own_T) (z : Int32) (h0 : Heap) (n0 : Nat) (Z0 : n0 ≤ h0.size) (O0 : Old Z n0 h0) (G : own_G Z T) (St : Sta Z Z.heap "java/lang/String" "COMPACT_STRINGS" "Z" (.int z)) (hz : ¬ z = 0) (S : Str Z h0 sa ta ks cs) :
    Ct l Z (⟨"com/example/llave/llave/policy/Objective", "of", "(Ljava/lang/String;)Ljava/util/Optional;"⟩ : MethodName) prog_14_method_4_code 6 (some (.object "java/util/Optional")) [] ({ frames := 3, cells := 4, slots := 6, locals := 38 } : Room) #[(.ref sa)] h0 n0 (fun v h => ∃ f, v = some (.ref f) ∧ Keep h0 h [] ∧ Exa Z h f "java/util/Optional" ∧ Fld Z h f "java/util/Optional" "value" "Ljava/lang/Object;" (own_res T.2.2.1 cs)) := by
  refine Ct.of (L0 := #[.val (.ref sa), .unset, .unset, .unset, .unset, .unset]) (plainFor_of_name pn_com_example_llave_llave_policy_Objective) (fun m => by first | (simp [entryFrame, mkF, argsToLocals, Value.category]; done) | rfl) ?_
  intro p e s m below meth c C hnm
  obtain ⟨va, kA, o, w, t, kb, eo⟩ := T
  obtain ⟨Sv, Va, Ea, Gj, Se, Ee, Fe⟩ := G
  try dsimp only at Sv Va Ea Gj Se Ee Fe
  try dsimp only
  refine Go.callS C d16_0 (hw _ (List.mem_of_getElem? (i := 79) rfl)) (hw _ (List.mem_of_getElem? (i := 80) rfl)) (hw _ (List.mem_of_getElem? (i := 81) rfl)) (hw _ (List.mem_of_getElem? (i := 82) rfl)) (by decide) (argsL := []) (rest := []) rfl (lenOf pd___Ljava_util_Optional_ rfl) rfl (W := 0) (Nat.le_of_ble_eq_true rfl) (Ct.pay (rm_empty l Z a0 hw eo h0 n0 (Se.ext O0.2)) (hw _ (List.mem_of_getElem? (i := 82) rfl)) (hw _ (List.mem_of_getElem? (i := 81) rfl)) (by decide) (by decide)) (fun _ _ _ q => q.2) (by decide) (by decide) (fun _ _ _ _ _ q => q) (pc' := 3) rfl ?_
  rintro _ _ L1 ⟨⟨rfl, rfl⟩, -⟩
  show Go p l e ({ frames := 3, cells := 4, slots := 6, locals := 38 } : Room) s m #[(.ref sa)] below meth c Z "com/example/llave/llave/policy/Objective" n0 (Bn s) (EnN s ({ frames := 3, cells := 4, slots := 6, locals := 38 } : Room) n0 (fun v h => ∃ f, v = some (.ref f) ∧ Keep h0 h [] ∧ Exa Z h f "java/util/Optional" ∧ Fld Z h f "java/util/Optional" "value" "Ljava/lang/Object;" (own_res o cs))) _ _ _ 3 #[.val (.ref sa), .unset, .unset, .unset, .unset, .unset] [(.ref eo)]
  refine Go.astoreN C d16_3 rfl (L' := #[.val (.ref sa), .val (.ref eo), .unset, .unset, .unset, .unset]) rfl (pc' := 4) rfl ?_
  refine Go.callS C d16_4 (hw _ (List.mem_of_getElem? (i := 84) rfl)) (hw _ (List.mem_of_getElem? (i := 85) rfl)) (hw _ (List.mem_of_getElem? (i := 9) rfl)) (hw _ (List.mem_of_getElem? (i := 86) rfl)) (by decide) (argsL := []) (rest := []) rfl (lenOf pd____Lcom_example_llave_llave_policy_Objective_ rfl) rfl (W := 0) (Nat.le_of_ble_eq_true rfl) (Ct.pay (rm_values l Z a0 hw o va kA h0 n0 (Sv.ext O0.2) (Va.ext O0.2) (Ea.ext O0.2)) (hw _ (List.mem_of_getElem? (i := 86) rfl)) (hw _ (List.mem_of_getElem? (i := 9) rfl)) (by decide) (by decide)) (fun _ _ _ q => q.2) (by decide) (by decide) (fun _ _ _ _ _ q => q) (pc' := 7) rfl ?_
  rintro _ h1 L2 ⟨⟨ar, rfl, E1, V1⟩, -⟩
  show Go p l e ({ frames := 3, cells := 4, slots := 6, locals := 38 } : Room) s m #[(.ref sa)] below meth c Z "com/example/llave/llave/policy/Objective" n0 (Bn s) (EnN s ({ frames := 3, cells := 4, slots := 6, locals := 38 } : Room) n0 (fun v h => ∃ f, v = some (.ref f) ∧ Keep h0 h [] ∧ Exa Z h f "java/util/Optional" ∧ Fld Z h f "java/util/Optional" "value" "Ljava/lang/Object;" (own_res o cs))) _ _ _ 7 #[.val (.ref sa), .val (.ref eo), .unset, .unset, .unset, .unset] [(.ref ar)]
  have O1 := O0.ext E1
  refine Go.astoreN C d16_7 rfl (L' := #[.val (.ref sa), .val (.ref eo), .val (.ref ar), .unset, .unset, .unset]) rfl (pc' := 8) rfl ?_
  refine Go.aloadN C d16_8 rfl rfl (pc' := 9) rfl ?_
  refine Go.arraylengthV C d16_9 V1 (pc' := 10) rfl ?_
  refine Go.istoreN C d16_10 (L' := #[.val (.ref sa), .val (.ref eo), .val (.ref ar), .val (.int (3 : Int32)), .unset, .unset]) rfl (pc' := 11) rfl ?_
  refine Go.iconst C d16_11 (v := 0) rfl (pc' := 12) rfl ?_
  refine Go.istore C d16_12 (L' := #[.val (.ref sa), .val (.ref eo), .val (.ref ar), .val (.int (3 : Int32)), .val (.int (0 : Int32)), .unset]) rfl (pc' := 14) rfl ?_
  have KB3 : ∀ h f, Keep h1 h [] → Exa Z h f "java/util/Optional" → Fld Z h f "java/util/Optional" "value" "Ljava/lang/Object;" (own_rs o cs 3) → Go p l e ({ frames := 3, cells := 4, slots := 6, locals := 38 } : Room) s m #[(.ref sa)] below meth c Z "com/example/llave/llave/policy/Objective" n0 (Bn s) (EnN s ({ frames := 3, cells := 4, slots := 6, locals := 38 } : Room) n0 (fun v h => ∃ f, v = some (.ref f) ∧ Keep h0 h [] ∧ Exa Z h f "java/util/Optional" ∧ Fld Z h f "java/util/Optional" "value" "Ljava/lang/Object;" (own_res o cs))) h 4 6 14 #[.val (.ref sa), .val (.ref f), .val (.ref ar), .val (.int (3 : Int32)), .val (.int (3 : Int32)), .val (.ref (o 2))] [] := by
    intro h2 f K2 A2 F2
    refine Go.iload C d16_14 rfl (pc' := 16) rfl ?_
    refine Go.iloadN C d16_16 rfl (pc' := 17) rfl ?_
    refine Go.icmp_ge_t C d16_17 (by decide) (by decide) (pc' := 50) (by decide) ?_
    refine Go.aloadN C d16_50 rfl rfl (pc' := 51) rfl ?_
    refine Go.retA C rfl d16_51 rfl (by decide) (by decide) ?_
    exact ⟨f, rfl, ((Keep.refl _ _).ext E1).trans K2 all0, A2, F2⟩
  have KB2 : ∀ h f, Keep h1 h [] → Exa Z h f "java/util/Optional" → Fld Z h f "java/util/Optional" "value" "Ljava/lang/Object;" (own_rs o cs 2) → Go p l e ({ frames := 3, cells := 4, slots := 6, locals := 38 } : Room) s m #[(.ref sa)] below meth c Z "com/example/llave/llave/policy/Objective" n0 (Bn s) (EnN s ({ frames := 3, cells := 4, slots := 6, locals := 38 } : Room) n0 (fun v h => ∃ f, v = some (.ref f) ∧ Keep h0 h [] ∧ Exa Z h f "java/util/Optional" ∧ Fld Z h f "java/util/Optional" "value" "Ljava/lang/Object;" (own_res o cs))) h 3 5 14 #[.val (.ref sa), .val (.ref f), .val (.ref ar), .val (.int (3 : Int32)), .val (.int (2 : Int32)), .val (.ref (o 1))] [] := by
    intro h2 f K2 A2 F2
    refine Go.iload C d16_14 rfl (pc' := 16) rfl ?_
    refine Go.iloadN C d16_16 rfl (pc' := 17) rfl ?_
    refine Go.icmp_ge_f C d16_17 (by decide) (pc' := 20) rfl ?_
    refine Go.aloadN C d16_20 rfl rfl (pc' := 21) rfl ?_
    refine Go.iload C d16_21 rfl (pc' := 23) rfl ?_
    have O2 := O1.keep K2 all0
    obtain ⟨Eo, Fo, So⟩ := Gj 2
    refine Go.aaloadV C d16_23 (V1.keep K2 nin0) rfl (by decide) (by decide) (v := .ref (o 2)) rfl (pc' := 24) rfl ?_
    refine Go.astore C d16_24 rfl (L' := #[.val (.ref sa), .val (.ref f), .val (.ref ar), .val (.int (3 : Int32)), .val (.int (2 : Int32)), .val (.ref (o 2))]) rfl (pc' := 26) rfl ?_
    refine Go.aload C d16_26 rfl rfl (pc' := 28) rfl ?_
    refine Go.getF C d16_28 (hw _ (List.mem_of_getElem? (i := 101) rfl)) Via.refl (Fo.ext O2.2) (pc' := 31) rfl ?_
    refine Go.aloadN C d16_31 rfl rfl (pc' := 32) rfl ?_
    refine Go.callV C d16_32 (hw _ (List.mem_of_getElem? (i := 103) rfl)) (hw _ (List.mem_of_getElem? (i := 104) rfl)) (hw _ (List.mem_of_getElem? (i := 106) rfl)) (hw _ (List.mem_of_getElem? (i := 105) rfl)) (fun st hZ => notFace_of_selects (args := #[]) (mvT hZ (hw _ (List.mem_of_getElem? (i := 106) rfl)))) (by decide) (So.1.ext O2.2) (argsL := [(.ref sa)]) (rest := []) rfl (lenOf pd__Ljava_lang_Object__Z rfl) rfl (W := 0) (Nat.le_of_ble_eq_true rfl) (own_eqP hw (So.ext O2.2) ((S.ext E1).keep K2 nin0 nin0) (St.ext O2.2) hz (by decide) (by decide)) (fun _ _ _ q => q.2) (by decide) (by decide) (fun _ _ _ _ _ q => q) (pc' := 35) rfl ?_
    rintro _ _ L3 ⟨⟨rfl, rfl⟩, -⟩
    show Go p l e ({ frames := 3, cells := 4, slots := 6, locals := 38 } : Room) s m #[(.ref sa)] below meth c Z "com/example/llave/llave/policy/Objective" n0 (Bn s) (EnN s ({ frames := 3, cells := 4, slots := 6, locals := 38 } : Room) n0 (fun v h => ∃ f, v = some (.ref f) ∧ Keep h0 h [] ∧ Exa Z h f "java/util/Optional" ∧ Fld Z h f "java/util/Optional" "value" "Ljava/lang/Object;" (own_res o cs))) _ _ _ 35 #[.val (.ref sa), .val (.ref f), .val (.ref ar), .val (.int (3 : Int32)), .val (.int (2 : Int32)), .val (.ref (o 2))] [(.int (if own_W 2 = cs then 1 else 0))]
    refine Go.if_eq C d16_35 (by decide) (pc1 := 44) (by decide) (pc2 := 38) rfl (fun hc => ?_) (fun hc => ?_)
    · refine Go.iinc C d16_44 rfl (y := (3 : Int32)) rfl (L' := #[.val (.ref sa), .val (.ref f), .val (.ref ar), .val (.int (3 : Int32)), .val (.int (3 : Int32)), .val (.ref (o 2))]) rfl (pc' := 47) rfl ?_
      refine Go.goto C d16_47 (by decide) (pc' := 14) (by decide) ?_
      refine Go.more (cells' := 4) (slots' := 6) (by decide) (by decide) ?_
      exact KB3 h2 f K2 A2 (by rw [own_n2 (own_ite0 hc)]; exact F2)
    · refine Go.aload C d16_38 rfl rfl (pc' := 40) rfl ?_
      refine Go.callS C d16_40 (hw _ (List.mem_of_getElem? (i := 127) rfl)) (hw _ (List.mem_of_getElem? (i := 128) rfl)) (hw _ (List.mem_of_getElem? (i := 81) rfl)) (hw _ (List.mem_of_getElem? (i := 129) rfl)) (by decide) (argsL := [(.ref (o 2))]) (rest := []) rfl (lenOf pd__Ljava_lang_Object__Ljava_util_Optional_ rfl) rfl (W := 0) (Nat.le_of_ble_eq_true rfl) (Ct.pay (rm_oof l Z a0 hw (o 2) h2 n0 (Nat.le_trans Z0 (Nat.le_trans E1.1 K2.1))) (hw _ (List.mem_of_getElem? (i := 129) rfl)) (hw _ (List.mem_of_getElem? (i := 81) rfl)) (by decide) (by decide)) (fun _ _ _ q => q.2) (by decide) (by decide) (fun _ _ _ _ _ q => q) (pc' := 43) rfl ?_
      rintro _ h3 L4 ⟨⟨f', rfl, K3, A3, F3⟩, -⟩
      show Go p l e ({ frames := 3, cells := 4, slots := 6, locals := 38 } : Room) s m #[(.ref sa)] below meth c Z "com/example/llave/llave/policy/Objective" n0 (Bn s) (EnN s ({ frames := 3, cells := 4, slots := 6, locals := 38 } : Room) n0 (fun v h => ∃ f, v = some (.ref f) ∧ Keep h0 h [] ∧ Exa Z h f "java/util/Optional" ∧ Fld Z h f "java/util/Optional" "value" "Ljava/lang/Object;" (own_res o cs))) _ _ _ 43 #[.val (.ref sa), .val (.ref f), .val (.ref ar), .val (.int (3 : Int32)), .val (.int (2 : Int32)), .val (.ref (o 2))] [(.ref f')]
      refine Go.astoreN C d16_43 rfl (L' := #[.val (.ref sa), .val (.ref f'), .val (.ref ar), .val (.int (3 : Int32)), .val (.int (2 : Int32)), .val (.ref (o 2))]) rfl (pc' := 44) rfl ?_
      refine Go.iinc C d16_44 rfl (y := (3 : Int32)) rfl (L' := #[.val (.ref sa), .val (.ref f'), .val (.ref ar), .val (.int (3 : Int32)), .val (.int (3 : Int32)), .val (.ref (o 2))]) rfl (pc' := 47) rfl ?_
      refine Go.goto C d16_47 (by decide) (pc' := 14) (by decide) ?_
      exact KB3 h3 f' (K2.trans K3 all0) A3 (by rw [own_p2 (own_ite1 hc)]; exact F3)
  have KB1 : ∀ h f, Keep h1 h [] → Exa Z h f "java/util/Optional" → Fld Z h f "java/util/Optional" "value" "Ljava/lang/Object;" (own_rs o cs 1) → Go p l e ({ frames := 3, cells := 4, slots := 6, locals := 38 } : Room) s m #[(.ref sa)] below meth c Z "com/example/llave/llave/policy/Objective" n0 (Bn s) (EnN s ({ frames := 3, cells := 4, slots := 6, locals := 38 } : Room) n0 (fun v h => ∃ f, v = some (.ref f) ∧ Keep h0 h [] ∧ Exa Z h f "java/util/Optional" ∧ Fld Z h f "java/util/Optional" "value" "Ljava/lang/Object;" (own_res o cs))) h 2 4 14 #[.val (.ref sa), .val (.ref f), .val (.ref ar), .val (.int (3 : Int32)), .val (.int (1 : Int32)), .val (.ref (o 0))] [] := by
    intro h2 f K2 A2 F2
    refine Go.iload C d16_14 rfl (pc' := 16) rfl ?_
    refine Go.iloadN C d16_16 rfl (pc' := 17) rfl ?_
    refine Go.icmp_ge_f C d16_17 (by decide) (pc' := 20) rfl ?_
    refine Go.aloadN C d16_20 rfl rfl (pc' := 21) rfl ?_
    refine Go.iload C d16_21 rfl (pc' := 23) rfl ?_
    have O2 := O1.keep K2 all0
    obtain ⟨Eo, Fo, So⟩ := Gj 1
    refine Go.aaloadV C d16_23 (V1.keep K2 nin0) rfl (by decide) (by decide) (v := .ref (o 1)) rfl (pc' := 24) rfl ?_
    refine Go.astore C d16_24 rfl (L' := #[.val (.ref sa), .val (.ref f), .val (.ref ar), .val (.int (3 : Int32)), .val (.int (1 : Int32)), .val (.ref (o 1))]) rfl (pc' := 26) rfl ?_
    refine Go.aload C d16_26 rfl rfl (pc' := 28) rfl ?_
    refine Go.getF C d16_28 (hw _ (List.mem_of_getElem? (i := 101) rfl)) Via.refl (Fo.ext O2.2) (pc' := 31) rfl ?_
    refine Go.aloadN C d16_31 rfl rfl (pc' := 32) rfl ?_
    refine Go.callV C d16_32 (hw _ (List.mem_of_getElem? (i := 103) rfl)) (hw _ (List.mem_of_getElem? (i := 104) rfl)) (hw _ (List.mem_of_getElem? (i := 106) rfl)) (hw _ (List.mem_of_getElem? (i := 105) rfl)) (fun st hZ => notFace_of_selects (args := #[]) (mvT hZ (hw _ (List.mem_of_getElem? (i := 106) rfl)))) (by decide) (So.1.ext O2.2) (argsL := [(.ref sa)]) (rest := []) rfl (lenOf pd__Ljava_lang_Object__Z rfl) rfl (W := 0) (Nat.le_of_ble_eq_true rfl) (own_eqP hw (So.ext O2.2) ((S.ext E1).keep K2 nin0 nin0) (St.ext O2.2) hz (by decide) (by decide)) (fun _ _ _ q => q.2) (by decide) (by decide) (fun _ _ _ _ _ q => q) (pc' := 35) rfl ?_
    rintro _ _ L3 ⟨⟨rfl, rfl⟩, -⟩
    show Go p l e ({ frames := 3, cells := 4, slots := 6, locals := 38 } : Room) s m #[(.ref sa)] below meth c Z "com/example/llave/llave/policy/Objective" n0 (Bn s) (EnN s ({ frames := 3, cells := 4, slots := 6, locals := 38 } : Room) n0 (fun v h => ∃ f, v = some (.ref f) ∧ Keep h0 h [] ∧ Exa Z h f "java/util/Optional" ∧ Fld Z h f "java/util/Optional" "value" "Ljava/lang/Object;" (own_res o cs))) _ _ _ 35 #[.val (.ref sa), .val (.ref f), .val (.ref ar), .val (.int (3 : Int32)), .val (.int (1 : Int32)), .val (.ref (o 1))] [(.int (if own_W 1 = cs then 1 else 0))]
    refine Go.if_eq C d16_35 (by decide) (pc1 := 44) (by decide) (pc2 := 38) rfl (fun hc => ?_) (fun hc => ?_)
    · refine Go.iinc C d16_44 rfl (y := (2 : Int32)) rfl (L' := #[.val (.ref sa), .val (.ref f), .val (.ref ar), .val (.int (3 : Int32)), .val (.int (2 : Int32)), .val (.ref (o 1))]) rfl (pc' := 47) rfl ?_
      refine Go.goto C d16_47 (by decide) (pc' := 14) (by decide) ?_
      refine Go.more (cells' := 3) (slots' := 5) (by decide) (by decide) ?_
      exact KB2 h2 f K2 A2 (by rw [own_n1 (own_ite0 hc)]; exact F2)
    · refine Go.aload C d16_38 rfl rfl (pc' := 40) rfl ?_
      refine Go.callS C d16_40 (hw _ (List.mem_of_getElem? (i := 127) rfl)) (hw _ (List.mem_of_getElem? (i := 128) rfl)) (hw _ (List.mem_of_getElem? (i := 81) rfl)) (hw _ (List.mem_of_getElem? (i := 129) rfl)) (by decide) (argsL := [(.ref (o 1))]) (rest := []) rfl (lenOf pd__Ljava_lang_Object__Ljava_util_Optional_ rfl) rfl (W := 0) (Nat.le_of_ble_eq_true rfl) (Ct.pay (rm_oof l Z a0 hw (o 1) h2 n0 (Nat.le_trans Z0 (Nat.le_trans E1.1 K2.1))) (hw _ (List.mem_of_getElem? (i := 129) rfl)) (hw _ (List.mem_of_getElem? (i := 81) rfl)) (by decide) (by decide)) (fun _ _ _ q => q.2) (by decide) (by decide) (fun _ _ _ _ _ q => q) (pc' := 43) rfl ?_
      rintro _ h3 L4 ⟨⟨f', rfl, K3, A3, F3⟩, -⟩
      show Go p l e ({ frames := 3, cells := 4, slots := 6, locals := 38 } : Room) s m #[(.ref sa)] below meth c Z "com/example/llave/llave/policy/Objective" n0 (Bn s) (EnN s ({ frames := 3, cells := 4, slots := 6, locals := 38 } : Room) n0 (fun v h => ∃ f, v = some (.ref f) ∧ Keep h0 h [] ∧ Exa Z h f "java/util/Optional" ∧ Fld Z h f "java/util/Optional" "value" "Ljava/lang/Object;" (own_res o cs))) _ _ _ 43 #[.val (.ref sa), .val (.ref f), .val (.ref ar), .val (.int (3 : Int32)), .val (.int (1 : Int32)), .val (.ref (o 1))] [(.ref f')]
      refine Go.astoreN C d16_43 rfl (L' := #[.val (.ref sa), .val (.ref f'), .val (.ref ar), .val (.int (3 : Int32)), .val (.int (1 : Int32)), .val (.ref (o 1))]) rfl (pc' := 44) rfl ?_
      refine Go.iinc C d16_44 rfl (y := (2 : Int32)) rfl (L' := #[.val (.ref sa), .val (.ref f'), .val (.ref ar), .val (.int (3 : Int32)), .val (.int (2 : Int32)), .val (.ref (o 1))]) rfl (pc' := 47) rfl ?_
      refine Go.goto C d16_47 (by decide) (pc' := 14) (by decide) ?_
      exact KB2 h3 f' (K2.trans K3 all0) A3 (by rw [own_p1 (own_ite1 hc)]; exact F3)
  have KB0 : ∀ h f, Keep h1 h [] → Exa Z h f "java/util/Optional" → Fld Z h f "java/util/Optional" "value" "Ljava/lang/Object;" (own_rs o cs 0) → Go p l e ({ frames := 3, cells := 4, slots := 6, locals := 38 } : Room) s m #[(.ref sa)] below meth c Z "com/example/llave/llave/policy/Objective" n0 (Bn s) (EnN s ({ frames := 3, cells := 4, slots := 6, locals := 38 } : Room) n0 (fun v h => ∃ f, v = some (.ref f) ∧ Keep h0 h [] ∧ Exa Z h f "java/util/Optional" ∧ Fld Z h f "java/util/Optional" "value" "Ljava/lang/Object;" (own_res o cs))) h 1 3 14 #[.val (.ref sa), .val (.ref f), .val (.ref ar), .val (.int (3 : Int32)), .val (.int (0 : Int32)), .unset] [] := by
    intro h2 f K2 A2 F2
    refine Go.iload C d16_14 rfl (pc' := 16) rfl ?_
    refine Go.iloadN C d16_16 rfl (pc' := 17) rfl ?_
    refine Go.icmp_ge_f C d16_17 (by decide) (pc' := 20) rfl ?_
    refine Go.aloadN C d16_20 rfl rfl (pc' := 21) rfl ?_
    refine Go.iload C d16_21 rfl (pc' := 23) rfl ?_
    have O2 := O1.keep K2 all0
    obtain ⟨Eo, Fo, So⟩ := Gj 0
    refine Go.aaloadV C d16_23 (V1.keep K2 nin0) rfl (by decide) (by decide) (v := .ref (o 0)) rfl (pc' := 24) rfl ?_
    refine Go.astore C d16_24 rfl (L' := #[.val (.ref sa), .val (.ref f), .val (.ref ar), .val (.int (3 : Int32)), .val (.int (0 : Int32)), .val (.ref (o 0))]) rfl (pc' := 26) rfl ?_
    refine Go.aload C d16_26 rfl rfl (pc' := 28) rfl ?_
    refine Go.getF C d16_28 (hw _ (List.mem_of_getElem? (i := 101) rfl)) Via.refl (Fo.ext O2.2) (pc' := 31) rfl ?_
    refine Go.aloadN C d16_31 rfl rfl (pc' := 32) rfl ?_
    refine Go.callV C d16_32 (hw _ (List.mem_of_getElem? (i := 103) rfl)) (hw _ (List.mem_of_getElem? (i := 104) rfl)) (hw _ (List.mem_of_getElem? (i := 106) rfl)) (hw _ (List.mem_of_getElem? (i := 105) rfl)) (fun st hZ => notFace_of_selects (args := #[]) (mvT hZ (hw _ (List.mem_of_getElem? (i := 106) rfl)))) (by decide) (So.1.ext O2.2) (argsL := [(.ref sa)]) (rest := []) rfl (lenOf pd__Ljava_lang_Object__Z rfl) rfl (W := 0) (Nat.le_of_ble_eq_true rfl) (own_eqP hw (So.ext O2.2) ((S.ext E1).keep K2 nin0 nin0) (St.ext O2.2) hz (by decide) (by decide)) (fun _ _ _ q => q.2) (by decide) (by decide) (fun _ _ _ _ _ q => q) (pc' := 35) rfl ?_
    rintro _ _ L3 ⟨⟨rfl, rfl⟩, -⟩
    show Go p l e ({ frames := 3, cells := 4, slots := 6, locals := 38 } : Room) s m #[(.ref sa)] below meth c Z "com/example/llave/llave/policy/Objective" n0 (Bn s) (EnN s ({ frames := 3, cells := 4, slots := 6, locals := 38 } : Room) n0 (fun v h => ∃ f, v = some (.ref f) ∧ Keep h0 h [] ∧ Exa Z h f "java/util/Optional" ∧ Fld Z h f "java/util/Optional" "value" "Ljava/lang/Object;" (own_res o cs))) _ _ _ 35 #[.val (.ref sa), .val (.ref f), .val (.ref ar), .val (.int (3 : Int32)), .val (.int (0 : Int32)), .val (.ref (o 0))] [(.int (if own_W 0 = cs then 1 else 0))]
    refine Go.if_eq C d16_35 (by decide) (pc1 := 44) (by decide) (pc2 := 38) rfl (fun hc => ?_) (fun hc => ?_)
    · refine Go.iinc C d16_44 rfl (y := (1 : Int32)) rfl (L' := #[.val (.ref sa), .val (.ref f), .val (.ref ar), .val (.int (3 : Int32)), .val (.int (1 : Int32)), .val (.ref (o 0))]) rfl (pc' := 47) rfl ?_
      refine Go.goto C d16_47 (by decide) (pc' := 14) (by decide) ?_
      refine Go.more (cells' := 2) (slots' := 4) (by decide) (by decide) ?_
      exact KB1 h2 f K2 A2 (by rw [own_n0 (own_ite0 hc)]; exact F2)
    · refine Go.aload C d16_38 rfl rfl (pc' := 40) rfl ?_
      refine Go.callS C d16_40 (hw _ (List.mem_of_getElem? (i := 127) rfl)) (hw _ (List.mem_of_getElem? (i := 128) rfl)) (hw _ (List.mem_of_getElem? (i := 81) rfl)) (hw _ (List.mem_of_getElem? (i := 129) rfl)) (by decide) (argsL := [(.ref (o 0))]) (rest := []) rfl (lenOf pd__Ljava_lang_Object__Ljava_util_Optional_ rfl) rfl (W := 0) (Nat.le_of_ble_eq_true rfl) (Ct.pay (rm_oof l Z a0 hw (o 0) h2 n0 (Nat.le_trans Z0 (Nat.le_trans E1.1 K2.1))) (hw _ (List.mem_of_getElem? (i := 129) rfl)) (hw _ (List.mem_of_getElem? (i := 81) rfl)) (by decide) (by decide)) (fun _ _ _ q => q.2) (by decide) (by decide) (fun _ _ _ _ _ q => q) (pc' := 43) rfl ?_
      rintro _ h3 L4 ⟨⟨f', rfl, K3, A3, F3⟩, -⟩
      show Go p l e ({ frames := 3, cells := 4, slots := 6, locals := 38 } : Room) s m #[(.ref sa)] below meth c Z "com/example/llave/llave/policy/Objective" n0 (Bn s) (EnN s ({ frames := 3, cells := 4, slots := 6, locals := 38 } : Room) n0 (fun v h => ∃ f, v = some (.ref f) ∧ Keep h0 h [] ∧ Exa Z h f "java/util/Optional" ∧ Fld Z h f "java/util/Optional" "value" "Ljava/lang/Object;" (own_res o cs))) _ _ _ 43 #[.val (.ref sa), .val (.ref f), .val (.ref ar), .val (.int (3 : Int32)), .val (.int (0 : Int32)), .val (.ref (o 0))] [(.ref f')]
      refine Go.astoreN C d16_43 rfl (L' := #[.val (.ref sa), .val (.ref f'), .val (.ref ar), .val (.int (3 : Int32)), .val (.int (0 : Int32)), .val (.ref (o 0))]) rfl (pc' := 44) rfl ?_
      refine Go.iinc C d16_44 rfl (y := (1 : Int32)) rfl (L' := #[.val (.ref sa), .val (.ref f'), .val (.ref ar), .val (.int (3 : Int32)), .val (.int (1 : Int32)), .val (.ref (o 0))]) rfl (pc' := 47) rfl ?_
      refine Go.goto C d16_47 (by decide) (pc' := 14) (by decide) ?_
      exact KB1 h3 f' (K2.trans K3 all0) A3 (by rw [own_p0 (own_ite1 hc)]; exact F3)
  exact KB0 h1 eo (Keep.refl _ _) ((Ee.ext O0.2).ext E1) ((Fe.ext O0.2).ext E1)
set_option maxRecDepth 65536 in
set_option maxHeartbeats 40000000 in
theorem rm_ofn (l : Launch) (Z : State) (a0 : Array Value) (hw : ∀ d ∈ tables_1, d.before a0 Z = true)  (T : own_T) (z : Int32) (h0 : Heap) (n0 : Nat) (Z0 : n0 ≤ h0.size) (O0 : Old Z n0 h0) (G : own_G Z T) (St : Sta Z Z.heap "java/lang/String" "COMPACT_STRINGS" "Z" (.int z)) (hz : ¬ z = 0)  :
    Ct l Z (⟨"com/example/llave/llave/policy/Objective", "of", "(Ljava/lang/String;)Ljava/util/Optional;"⟩ : MethodName) prog_14_method_4_code 6 (some (.object "java/util/Optional")) [] ({ frames := 3, cells := 4, slots := 6, locals := 38 } : Room) #[.null] h0 n0 (fun v h => ∃ f, v = some (.ref f) ∧ Keep h0 h [] ∧ Exa Z h f "java/util/Optional" ∧ Fld Z h f "java/util/Optional" "value" "Ljava/lang/Object;" Value.null) := by
  refine Ct.of (L0 := #[.val .null, .unset, .unset, .unset, .unset, .unset]) (plainFor_of_name pn_com_example_llave_llave_policy_Objective) (fun m => by first | (simp [entryFrame, mkF, argsToLocals, Value.category]; done) | rfl) ?_
  intro p e s m below meth c C hnm
  obtain ⟨va, kA, o, w, t, kb, eo⟩ := T
  obtain ⟨Sv, Va, Ea, Gj, Se, Ee, Fe⟩ := G
  try dsimp only at Sv Va Ea Gj Se Ee Fe
  try dsimp only
  refine Go.callS C d16_0 (hw _ (List.mem_of_getElem? (i := 79) rfl)) (hw _ (List.mem_of_getElem? (i := 80) rfl)) (hw _ (List.mem_of_getElem? (i := 81) rfl)) (hw _ (List.mem_of_getElem? (i := 82) rfl)) (by decide) (argsL := []) (rest := []) rfl (lenOf pd___Ljava_util_Optional_ rfl) rfl (W := 0) (Nat.le_of_ble_eq_true rfl) (Ct.pay (rm_empty l Z a0 hw eo h0 n0 (Se.ext O0.2)) (hw _ (List.mem_of_getElem? (i := 82) rfl)) (hw _ (List.mem_of_getElem? (i := 81) rfl)) (by decide) (by decide)) (fun _ _ _ q => q.2) (by decide) (by decide) (fun _ _ _ _ _ q => q) (pc' := 3) rfl ?_
  rintro _ _ L1 ⟨⟨rfl, rfl⟩, -⟩
  show Go p l e ({ frames := 3, cells := 4, slots := 6, locals := 38 } : Room) s m #[.null] below meth c Z "com/example/llave/llave/policy/Objective" n0 (Bn s) (EnN s ({ frames := 3, cells := 4, slots := 6, locals := 38 } : Room) n0 (fun v h => ∃ f, v = some (.ref f) ∧ Keep h0 h [] ∧ Exa Z h f "java/util/Optional" ∧ Fld Z h f "java/util/Optional" "value" "Ljava/lang/Object;" Value.null)) _ _ _ 3 #[.val .null, .unset, .unset, .unset, .unset, .unset] [(.ref eo)]
  refine Go.astoreN C d16_3 rfl (L' := #[.val .null, .val (.ref eo), .unset, .unset, .unset, .unset]) rfl (pc' := 4) rfl ?_
  refine Go.callS C d16_4 (hw _ (List.mem_of_getElem? (i := 84) rfl)) (hw _ (List.mem_of_getElem? (i := 85) rfl)) (hw _ (List.mem_of_getElem? (i := 9) rfl)) (hw _ (List.mem_of_getElem? (i := 86) rfl)) (by decide) (argsL := []) (rest := []) rfl (lenOf pd____Lcom_example_llave_llave_policy_Objective_ rfl) rfl (W := 0) (Nat.le_of_ble_eq_true rfl) (Ct.pay (rm_values l Z a0 hw o va kA h0 n0 (Sv.ext O0.2) (Va.ext O0.2) (Ea.ext O0.2)) (hw _ (List.mem_of_getElem? (i := 86) rfl)) (hw _ (List.mem_of_getElem? (i := 9) rfl)) (by decide) (by decide)) (fun _ _ _ q => q.2) (by decide) (by decide) (fun _ _ _ _ _ q => q) (pc' := 7) rfl ?_
  rintro _ h1 L2 ⟨⟨ar, rfl, E1, V1⟩, -⟩
  show Go p l e ({ frames := 3, cells := 4, slots := 6, locals := 38 } : Room) s m #[.null] below meth c Z "com/example/llave/llave/policy/Objective" n0 (Bn s) (EnN s ({ frames := 3, cells := 4, slots := 6, locals := 38 } : Room) n0 (fun v h => ∃ f, v = some (.ref f) ∧ Keep h0 h [] ∧ Exa Z h f "java/util/Optional" ∧ Fld Z h f "java/util/Optional" "value" "Ljava/lang/Object;" Value.null)) _ _ _ 7 #[.val .null, .val (.ref eo), .unset, .unset, .unset, .unset] [(.ref ar)]
  have O1 := O0.ext E1
  refine Go.astoreN C d16_7 rfl (L' := #[.val .null, .val (.ref eo), .val (.ref ar), .unset, .unset, .unset]) rfl (pc' := 8) rfl ?_
  refine Go.aloadN C d16_8 rfl rfl (pc' := 9) rfl ?_
  refine Go.arraylengthV C d16_9 V1 (pc' := 10) rfl ?_
  refine Go.istoreN C d16_10 (L' := #[.val .null, .val (.ref eo), .val (.ref ar), .val (.int (3 : Int32)), .unset, .unset]) rfl (pc' := 11) rfl ?_
  refine Go.iconst C d16_11 (v := 0) rfl (pc' := 12) rfl ?_
  refine Go.istore C d16_12 (L' := #[.val .null, .val (.ref eo), .val (.ref ar), .val (.int (3 : Int32)), .val (.int (0 : Int32)), .unset]) rfl (pc' := 14) rfl ?_
  have KB3 : ∀ h f, Keep h1 h [] → Exa Z h f "java/util/Optional" → Fld Z h f "java/util/Optional" "value" "Ljava/lang/Object;" Value.null → Go p l e ({ frames := 3, cells := 4, slots := 6, locals := 38 } : Room) s m #[.null] below meth c Z "com/example/llave/llave/policy/Objective" n0 (Bn s) (EnN s ({ frames := 3, cells := 4, slots := 6, locals := 38 } : Room) n0 (fun v h => ∃ f, v = some (.ref f) ∧ Keep h0 h [] ∧ Exa Z h f "java/util/Optional" ∧ Fld Z h f "java/util/Optional" "value" "Ljava/lang/Object;" Value.null)) h 4 6 14 #[.val .null, .val (.ref f), .val (.ref ar), .val (.int (3 : Int32)), .val (.int (3 : Int32)), .val (.ref (o 2))] [] := by
    intro h2 f K2 A2 F2
    refine Go.iload C d16_14 rfl (pc' := 16) rfl ?_
    refine Go.iloadN C d16_16 rfl (pc' := 17) rfl ?_
    refine Go.icmp_ge_t C d16_17 (by decide) (by decide) (pc' := 50) (by decide) ?_
    refine Go.aloadN C d16_50 rfl rfl (pc' := 51) rfl ?_
    refine Go.retA C rfl d16_51 rfl (by decide) (by decide) ?_
    exact ⟨f, rfl, ((Keep.refl _ _).ext E1).trans K2 all0, A2, F2⟩
  have KB2 : ∀ h f, Keep h1 h [] → Exa Z h f "java/util/Optional" → Fld Z h f "java/util/Optional" "value" "Ljava/lang/Object;" Value.null → Go p l e ({ frames := 3, cells := 4, slots := 6, locals := 38 } : Room) s m #[.null] below meth c Z "com/example/llave/llave/policy/Objective" n0 (Bn s) (EnN s ({ frames := 3, cells := 4, slots := 6, locals := 38 } : Room) n0 (fun v h => ∃ f, v = some (.ref f) ∧ Keep h0 h [] ∧ Exa Z h f "java/util/Optional" ∧ Fld Z h f "java/util/Optional" "value" "Ljava/lang/Object;" Value.null)) h 3 5 14 #[.val .null, .val (.ref f), .val (.ref ar), .val (.int (3 : Int32)), .val (.int (2 : Int32)), .val (.ref (o 1))] [] := by
    intro h2 f K2 A2 F2
    refine Go.iload C d16_14 rfl (pc' := 16) rfl ?_
    refine Go.iloadN C d16_16 rfl (pc' := 17) rfl ?_
    refine Go.icmp_ge_f C d16_17 (by decide) (pc' := 20) rfl ?_
    refine Go.aloadN C d16_20 rfl rfl (pc' := 21) rfl ?_
    refine Go.iload C d16_21 rfl (pc' := 23) rfl ?_
    have O2 := O1.keep K2 all0
    obtain ⟨Eo, Fo, So⟩ := Gj 2
    refine Go.aaloadV C d16_23 (V1.keep K2 nin0) rfl (by decide) (by decide) (v := .ref (o 2)) rfl (pc' := 24) rfl ?_
    refine Go.astore C d16_24 rfl (L' := #[.val .null, .val (.ref f), .val (.ref ar), .val (.int (3 : Int32)), .val (.int (2 : Int32)), .val (.ref (o 2))]) rfl (pc' := 26) rfl ?_
    refine Go.aload C d16_26 rfl rfl (pc' := 28) rfl ?_
    refine Go.getF C d16_28 (hw _ (List.mem_of_getElem? (i := 101) rfl)) Via.refl (Fo.ext O2.2) (pc' := 31) rfl ?_
    refine Go.aloadN C d16_31 rfl rfl (pc' := 32) rfl ?_
    refine Go.callV C d16_32 (hw _ (List.mem_of_getElem? (i := 103) rfl)) (hw _ (List.mem_of_getElem? (i := 104) rfl)) (hw _ (List.mem_of_getElem? (i := 106) rfl)) (hw _ (List.mem_of_getElem? (i := 105) rfl)) (fun st hZ => notFace_of_selects (args := #[]) (mvT hZ (hw _ (List.mem_of_getElem? (i := 106) rfl)))) (by decide) (So.1.ext O2.2) (argsL := [.null]) (rest := []) rfl (lenOf pd__Ljava_lang_Object__Z rfl) rfl (W := 0) (Nat.le_of_ble_eq_true rfl) (Ct.pay (rm_eqn l Z a0 hw (w 2) h2 n0) (hw _ (List.mem_of_getElem? (i := 107) rfl)) (hw _ (List.mem_of_getElem? (i := 1) rfl)) (by decide) (by decide)) (fun _ _ _ q => q.2) (by decide) (by decide) (fun _ _ _ _ _ q => q) (pc' := 35) rfl ?_
    rintro _ _ L3 ⟨⟨rfl, rfl⟩, -⟩
    show Go p l e ({ frames := 3, cells := 4, slots := 6, locals := 38 } : Room) s m #[.null] below meth c Z "com/example/llave/llave/policy/Objective" n0 (Bn s) (EnN s ({ frames := 3, cells := 4, slots := 6, locals := 38 } : Room) n0 (fun v h => ∃ f, v = some (.ref f) ∧ Keep h0 h [] ∧ Exa Z h f "java/util/Optional" ∧ Fld Z h f "java/util/Optional" "value" "Ljava/lang/Object;" Value.null)) _ _ _ 35 #[.val .null, .val (.ref f), .val (.ref ar), .val (.int (3 : Int32)), .val (.int (2 : Int32)), .val (.ref (o 2))] [(.int (0 : Int32))]
    refine Go.if_eq_t C d16_35 rfl (by decide) (pc' := 44) (by decide) ?_
    refine Go.iinc C d16_44 rfl (y := (3 : Int32)) rfl (L' := #[.val .null, .val (.ref f), .val (.ref ar), .val (.int (3 : Int32)), .val (.int (3 : Int32)), .val (.ref (o 2))]) rfl (pc' := 47) rfl ?_
    refine Go.goto C d16_47 (by decide) (pc' := 14) (by decide) ?_
    refine Go.more (cells' := 4) (slots' := 6) (by decide) (by decide) ?_
    exact KB3 h2 f K2 A2 F2
  have KB1 : ∀ h f, Keep h1 h [] → Exa Z h f "java/util/Optional" → Fld Z h f "java/util/Optional" "value" "Ljava/lang/Object;" Value.null → Go p l e ({ frames := 3, cells := 4, slots := 6, locals := 38 } : Room) s m #[.null] below meth c Z "com/example/llave/llave/policy/Objective" n0 (Bn s) (EnN s ({ frames := 3, cells := 4, slots := 6, locals := 38 } : Room) n0 (fun v h => ∃ f, v = some (.ref f) ∧ Keep h0 h [] ∧ Exa Z h f "java/util/Optional" ∧ Fld Z h f "java/util/Optional" "value" "Ljava/lang/Object;" Value.null)) h 2 4 14 #[.val .null, .val (.ref f), .val (.ref ar), .val (.int (3 : Int32)), .val (.int (1 : Int32)), .val (.ref (o 0))] [] := by
    intro h2 f K2 A2 F2
    refine Go.iload C d16_14 rfl (pc' := 16) rfl ?_
    refine Go.iloadN C d16_16 rfl (pc' := 17) rfl ?_
    refine Go.icmp_ge_f C d16_17 (by decide) (pc' := 20) rfl ?_
    refine Go.aloadN C d16_20 rfl rfl (pc' := 21) rfl ?_
    refine Go.iload C d16_21 rfl (pc' := 23) rfl ?_
    have O2 := O1.keep K2 all0
    obtain ⟨Eo, Fo, So⟩ := Gj 1
    refine Go.aaloadV C d16_23 (V1.keep K2 nin0) rfl (by decide) (by decide) (v := .ref (o 1)) rfl (pc' := 24) rfl ?_
    refine Go.astore C d16_24 rfl (L' := #[.val .null, .val (.ref f), .val (.ref ar), .val (.int (3 : Int32)), .val (.int (1 : Int32)), .val (.ref (o 1))]) rfl (pc' := 26) rfl ?_
    refine Go.aload C d16_26 rfl rfl (pc' := 28) rfl ?_
    refine Go.getF C d16_28 (hw _ (List.mem_of_getElem? (i := 101) rfl)) Via.refl (Fo.ext O2.2) (pc' := 31) rfl ?_
    refine Go.aloadN C d16_31 rfl rfl (pc' := 32) rfl ?_
    refine Go.callV C d16_32 (hw _ (List.mem_of_getElem? (i := 103) rfl)) (hw _ (List.mem_of_getElem? (i := 104) rfl)) (hw _ (List.mem_of_getElem? (i := 106) rfl)) (hw _ (List.mem_of_getElem? (i := 105) rfl)) (fun st hZ => notFace_of_selects (args := #[]) (mvT hZ (hw _ (List.mem_of_getElem? (i := 106) rfl)))) (by decide) (So.1.ext O2.2) (argsL := [.null]) (rest := []) rfl (lenOf pd__Ljava_lang_Object__Z rfl) rfl (W := 0) (Nat.le_of_ble_eq_true rfl) (Ct.pay (rm_eqn l Z a0 hw (w 1) h2 n0) (hw _ (List.mem_of_getElem? (i := 107) rfl)) (hw _ (List.mem_of_getElem? (i := 1) rfl)) (by decide) (by decide)) (fun _ _ _ q => q.2) (by decide) (by decide) (fun _ _ _ _ _ q => q) (pc' := 35) rfl ?_
    rintro _ _ L3 ⟨⟨rfl, rfl⟩, -⟩
    show Go p l e ({ frames := 3, cells := 4, slots := 6, locals := 38 } : Room) s m #[.null] below meth c Z "com/example/llave/llave/policy/Objective" n0 (Bn s) (EnN s ({ frames := 3, cells := 4, slots := 6, locals := 38 } : Room) n0 (fun v h => ∃ f, v = some (.ref f) ∧ Keep h0 h [] ∧ Exa Z h f "java/util/Optional" ∧ Fld Z h f "java/util/Optional" "value" "Ljava/lang/Object;" Value.null)) _ _ _ 35 #[.val .null, .val (.ref f), .val (.ref ar), .val (.int (3 : Int32)), .val (.int (1 : Int32)), .val (.ref (o 1))] [(.int (0 : Int32))]
    refine Go.if_eq_t C d16_35 rfl (by decide) (pc' := 44) (by decide) ?_
    refine Go.iinc C d16_44 rfl (y := (2 : Int32)) rfl (L' := #[.val .null, .val (.ref f), .val (.ref ar), .val (.int (3 : Int32)), .val (.int (2 : Int32)), .val (.ref (o 1))]) rfl (pc' := 47) rfl ?_
    refine Go.goto C d16_47 (by decide) (pc' := 14) (by decide) ?_
    refine Go.more (cells' := 3) (slots' := 5) (by decide) (by decide) ?_
    exact KB2 h2 f K2 A2 F2
  have KB0 : ∀ h f, Keep h1 h [] → Exa Z h f "java/util/Optional" → Fld Z h f "java/util/Optional" "value" "Ljava/lang/Object;" Value.null → Go p l e ({ frames := 3, cells := 4, slots := 6, locals := 38 } : Room) s m #[.null] below meth c Z "com/example/llave/llave/policy/Objective" n0 (Bn s) (EnN s ({ frames := 3, cells := 4, slots := 6, locals := 38 } : Room) n0 (fun v h => ∃ f, v = some (.ref f) ∧ Keep h0 h [] ∧ Exa Z h f "java/util/Optional" ∧ Fld Z h f "java/util/Optional" "value" "Ljava/lang/Object;" Value.null)) h 1 3 14 #[.val .null, .val (.ref f), .val (.ref ar), .val (.int (3 : Int32)), .val (.int (0 : Int32)), .unset] [] := by
    intro h2 f K2 A2 F2
    refine Go.iload C d16_14 rfl (pc' := 16) rfl ?_
    refine Go.iloadN C d16_16 rfl (pc' := 17) rfl ?_
    refine Go.icmp_ge_f C d16_17 (by decide) (pc' := 20) rfl ?_
    refine Go.aloadN C d16_20 rfl rfl (pc' := 21) rfl ?_
    refine Go.iload C d16_21 rfl (pc' := 23) rfl ?_
    have O2 := O1.keep K2 all0
    obtain ⟨Eo, Fo, So⟩ := Gj 0
    refine Go.aaloadV C d16_23 (V1.keep K2 nin0) rfl (by decide) (by decide) (v := .ref (o 0)) rfl (pc' := 24) rfl ?_
    refine Go.astore C d16_24 rfl (L' := #[.val .null, .val (.ref f), .val (.ref ar), .val (.int (3 : Int32)), .val (.int (0 : Int32)), .val (.ref (o 0))]) rfl (pc' := 26) rfl ?_
    refine Go.aload C d16_26 rfl rfl (pc' := 28) rfl ?_
    refine Go.getF C d16_28 (hw _ (List.mem_of_getElem? (i := 101) rfl)) Via.refl (Fo.ext O2.2) (pc' := 31) rfl ?_
    refine Go.aloadN C d16_31 rfl rfl (pc' := 32) rfl ?_
    refine Go.callV C d16_32 (hw _ (List.mem_of_getElem? (i := 103) rfl)) (hw _ (List.mem_of_getElem? (i := 104) rfl)) (hw _ (List.mem_of_getElem? (i := 106) rfl)) (hw _ (List.mem_of_getElem? (i := 105) rfl)) (fun st hZ => notFace_of_selects (args := #[]) (mvT hZ (hw _ (List.mem_of_getElem? (i := 106) rfl)))) (by decide) (So.1.ext O2.2) (argsL := [.null]) (rest := []) rfl (lenOf pd__Ljava_lang_Object__Z rfl) rfl (W := 0) (Nat.le_of_ble_eq_true rfl) (Ct.pay (rm_eqn l Z a0 hw (w 0) h2 n0) (hw _ (List.mem_of_getElem? (i := 107) rfl)) (hw _ (List.mem_of_getElem? (i := 1) rfl)) (by decide) (by decide)) (fun _ _ _ q => q.2) (by decide) (by decide) (fun _ _ _ _ _ q => q) (pc' := 35) rfl ?_
    rintro _ _ L3 ⟨⟨rfl, rfl⟩, -⟩
    show Go p l e ({ frames := 3, cells := 4, slots := 6, locals := 38 } : Room) s m #[.null] below meth c Z "com/example/llave/llave/policy/Objective" n0 (Bn s) (EnN s ({ frames := 3, cells := 4, slots := 6, locals := 38 } : Room) n0 (fun v h => ∃ f, v = some (.ref f) ∧ Keep h0 h [] ∧ Exa Z h f "java/util/Optional" ∧ Fld Z h f "java/util/Optional" "value" "Ljava/lang/Object;" Value.null)) _ _ _ 35 #[.val .null, .val (.ref f), .val (.ref ar), .val (.int (3 : Int32)), .val (.int (0 : Int32)), .val (.ref (o 0))] [(.int (0 : Int32))]
    refine Go.if_eq_t C d16_35 rfl (by decide) (pc' := 44) (by decide) ?_
    refine Go.iinc C d16_44 rfl (y := (1 : Int32)) rfl (L' := #[.val .null, .val (.ref f), .val (.ref ar), .val (.int (3 : Int32)), .val (.int (1 : Int32)), .val (.ref (o 0))]) rfl (pc' := 47) rfl ?_
    refine Go.goto C d16_47 (by decide) (pc' := 14) (by decide) ?_
    refine Go.more (cells' := 2) (slots' := 4) (by decide) (by decide) ?_
    exact KB1 h2 f K2 A2 F2
  exact KB0 h1 eo (Keep.refl _ _) ((Ee.ext O0.2).ext E1) ((Fe.ext O0.2).ext E1)
set_option maxRecDepth 65536 in
set_option maxHeartbeats 40000000 in
theorem rm_law (l : Launch) (Z : State) (a0 : Array Value) (hw : ∀ d ∈ tables_1, d.before a0 Z = true) (x0 x1 x2 x3 z : Int32) (T : own_T) (fm : Value) (h0 : Heap) (n0 : Nat) (Z0 : n0 ≤ h0.size) (O0 : Old Z n0 h0) (G : own_G Z T) (Gs : own_S Z T) (St : Sta Z Z.heap "java/lang/String" "COMPACT_STRINGS" "Z" (.int z)) (hz : ¬ z = 0) (Fm : Sta Z Z.heap "jdk/internal/util/Preconditions" "SIOOBE_FORMATTER" "Ljava/util/function/BiFunction;" fm) (rf : fm.isRef = true) :
    CtW l Z consts_1 [] x code 15 (some .boolean) tables_1 room_1 #[.int x0, .int x1, .int x2, .int x3] h0 n0 (fun v _ => v = some (.int 1)) := by
  refine CtW.of (L0 := #[.val (.int x0), .val (.int x1), .val (.int x2), .val (.int x3), .unset, .unset, .unset, .unset, .unset, .unset, .unset, .unset, .unset, .unset, .unset]) (plainFor_of_name pn_com_example_llave_llave_policy_ObjectiveOfPinLaw) (fun m => by first | (simp [entryFrame, mkF, argsToLocals, Value.category]; done) | rfl) ?_
  intro p e s m below meth c C hnm
  have hEL := own_ew (Z := Z) (a0 := a0) hw
  have own_sa := own_sat (Z := Z) (a0 := a0) hw
  have GT := G
  obtain ⟨-, -, -, Gj, -, -, -⟩ := G
  refine Go.iloadN C at_0 rfl (pc' := 1) rfl ?_
  refine Go.iconst C at_1 (v := 3) rfl (pc' := 2) rfl ?_
  refine Go.iand C at_2 (pc' := 3) rfl ?_
  refine Go.istore C at_3 (L' := #[.val (.int x0), .val (.int x1), .val (.int x2), .val (.int x3), .val (.int (x0 &&& (3 : Int32))), .unset, .unset, .unset, .unset, .unset, .unset, .unset, .unset, .unset, .unset]) rfl (pc' := 5) rfl ?_
  refine Go.iloadN C at_5 rfl (pc' := 6) rfl ?_
  refine Go.sipush C at_6 (v := 255) rfl (pc' := 9) rfl ?_
  refine Go.iand C at_9 (pc' := 10) rfl ?_
  refine Go.i2c C at_10 (pc' := 11) rfl ?_
  refine Go.istore C at_11 (L' := #[.val (.int x0), .val (.int x1), .val (.int x2), .val (.int x3), .val (.int (x0 &&& (3 : Int32))), .val (.int (x3 &&& (255 : Int32)).toUInt32.toUInt16.toUInt32.toInt32), .unset, .unset, .unset, .unset, .unset, .unset, .unset, .unset, .unset]) rfl (pc' := 13) rfl ?_
  refine Go.iloadN C at_13 rfl (pc' := 14) rfl ?_
  refine Go.sipush C at_14 (v := 256) rfl (pc' := 17) rfl ?_
  refine Go.iand C at_17 (pc' := 18) rfl ?_
  refine Go.if_eq C at_18 (by decide) (pc1 := 25) (by decide) (pc2 := 21) rfl (fun hch => ?_) (fun hch => ?_)
  · refine Go.iconst C at_25 (v := 0) rfl (pc' := 26) rfl ?_
    refine Go.istore C at_26 (L' := #[.val (.int x0), .val (.int x1), .val (.int x2), .val (.int x3), .val (.int (x0 &&& (3 : Int32))), .val (.int (x3 &&& (255 : Int32)).toUInt32.toUInt16.toUInt32.toInt32), .val (.int (0 : Int32)), .unset, .unset, .unset, .unset, .unset, .unset, .unset, .unset]) rfl (pc' := 28) rfl ?_
    rw [i2c_mask]
    show Go p l e room_1 s m #[.int x0, .int x1, .int x2, .int x3] below meth c Z "com/example/llave/llave/policy/ObjectiveOfPinLaw" n0 _ (EnW s room_1 n0 Z consts_1 (fun v _ => v = some (.int 1))) _ _ _ 28 #[.val (.int x0), .val (.int x1), .val (.int x2), .val (.int x3), .val (.int (x0 &&& (3 : Int32))), .val (.int (x3 &&& 255)), .val (.int (0 : Int32)), .unset, .unset, .unset, .unset, .unset, .unset, .unset, .unset] []
    refine Go.iload C at_28 rfl (pc' := 30) rfl ?_
    refine Go.iconst C at_30 (v := 3) rfl (pc' := 31) rfl ?_
    refine Go.icmp_ne C at_31 (by decide) (pc1 := 56) (by decide) (pc2 := 34) rfl (fun h3 => ?_) (fun h3 => ?_)
    · refine Go.iload C at_56 rfl (pc' := 58) rfl ?_
      refine Go.if_ne C at_58 (by decide) (pc1 := 73) (by decide) (pc2 := 61) rfl (fun h0k => ?_) (fun h0k => ?_)
      · refine Go.iload C at_73 rfl (pc' := 75) rfl ?_
        refine Go.iconst C at_75 (v := 1) rfl (pc' := 76) rfl ?_
        refine Go.icmp_ne C at_76 (by decide) (pc1 := 91) (by decide) (pc2 := 79) rfl (fun h1k => ?_) (fun h1k => ?_)
        · refine Go.ldcW C at_91 (hw _ (List.mem_of_getElem? (i := 119) rfl)) own_sa hEL (by decide) (vs := (((own_W 2) : List Int32).map fun c => c.toInt8.toInt32).map Value.int) (z := 12) (n := 48) ⟨by decide, by decide⟩ (by decide) (by decide) (by decide) (by decide) (by decide) (by decide) (pc' := 93) rfl ?_
          intro h1 la lb lk X1 A1 C1 V1 Y1 N1
          have S1 : Str Z h1 la lb lk (own_W 2) := ⟨A1, C1, V1, Y1, by decide, by decide⟩
          have O1 := O0.ext X1
          have Z1 := Nat.le_trans Z0 X1.1
          refine Go.astore C at_93 rfl (L' := #[.val (.int x0), .val (.int x1), .val (.int x2), .val (.int x3), .val (.int (x0 &&& (3 : Int32))), .val (.int (x3 &&& 255)), .val (.int (0 : Int32)), .unset, .unset, .val (.ref la), .unset, .unset, .unset, .unset, .unset]) rfl (pc' := 95) rfl ?_
          refine Go.getS C at_95 (hw _ (List.mem_of_getElem? (i := 120) rfl)) Via.refl ((Gs.2.2).ext O1.2) (pc' := 98) rfl ?_
          refine Go.astore C at_98 rfl (L' := #[.val (.int x0), .val (.int x1), .val (.int x2), .val (.int x3), .val (.int (x0 &&& (3 : Int32))), .val (.int (x3 &&& 255)), .val (.int (0 : Int32)), .unset, .unset, .val (.ref la), .val (.ref (T.2.2.1 2)), .unset, .unset, .unset, .unset]) rfl (pc' := 100) rfl ?_
          refine Go.iloadN C at_100 rfl (pc' := 101) rfl ?_
          refine Go.ldcInt C at_101 (hw _ (List.mem_of_getElem? (i := 11) rfl)) (pc' := 103) rfl ?_
          refine Go.iand C at_103 (pc' := 104) rfl ?_
          refine Go.iconst C at_104 (v := 3) rfl (pc' := 105) rfl ?_
          refine Go.irem C at_105 (by decide) (pc' := 106) rfl ?_
          rcases own_rem3 x1 with ed | ed | ed
          · rw [ed]
            show Go p l e room_1 s m #[.int x0, .int x1, .int x2, .int x3] below meth c Z "com/example/llave/llave/policy/ObjectiveOfPinLaw" n0 _ (EnW s room_1 n0 Z consts_1 (fun v _ => v = some (.int 1))) _ _ _ 106 #[.val (.int x0), .val (.int x1), .val (.int x2), .val (.int x3), .val (.int (x0 &&& (3 : Int32))), .val (.int (x3 &&& 255)), .val (.int (0 : Int32)), .unset, .unset, .val (.ref la), .val (.ref (T.2.2.1 2)), .unset, .unset, .unset, .unset] [(.int (0 : Int32))]
            refine Go.iconst C at_106 (v := 1) rfl (pc' := 107) rfl ?_
            refine Go.isub C at_107 (pc' := 108) rfl ?_
            show Go p l e room_1 s m #[.int x0, .int x1, .int x2, .int x3] below meth c Z "com/example/llave/llave/policy/ObjectiveOfPinLaw" n0 _ (EnW s room_1 n0 Z consts_1 (fun v _ => v = some (.int 1))) _ _ _ 108 #[.val (.int x0), .val (.int x1), .val (.int x2), .val (.int x3), .val (.int (x0 &&& (3 : Int32))), .val (.int (x3 &&& 255)), .val (.int (0 : Int32)), .unset, .unset, .val (.ref la), .val (.ref (T.2.2.1 2)), .unset, .unset, .unset, .unset] [(.int (-1 : Int32))]
            refine Go.istore C at_108 (L' := #[.val (.int x0), .val (.int x1), .val (.int x2), .val (.int x3), .val (.int (x0 &&& (3 : Int32))), .val (.int (x3 &&& 255)), .val (.int (0 : Int32)), .unset, .unset, .val (.ref la), .val (.ref (T.2.2.1 2)), .val (.int (-1 : Int32)), .unset, .unset, .unset]) rfl (pc' := 110) rfl ?_
            refine Go.aload C at_110 rfl rfl (pc' := 112) rfl ?_
            refine Go.callV C at_112 (hw _ (List.mem_of_getElem? (i := 12) rfl)) (hw _ (List.mem_of_getElem? (i := 13) rfl)) (hw _ (List.mem_of_getElem? (i := 15) rfl)) (hw _ (List.mem_of_getElem? (i := 14) rfl)) (fun st hZ => notFace_of_selects (args := #[]) (mvT hZ (hw _ (List.mem_of_getElem? (i := 15) rfl)))) (by decide) S1.1 (argsL := []) (rest := []) rfl (lenOf pd___I rfl) rfl (W := 0) (Nat.le_of_ble_eq_true rfl) (own_lenP hw S1 (St.ext O1.2) hz (by decide) (by decide)) (fun _ _ _ q => q.2) (by decide) (by decide) (fun _ _ _ _ q b => by obtain ⟨⟨_, rfl⟩, _⟩ := q; exact b) (pc' := 115) rfl ?_
            rintro _ _ L1 ⟨⟨rfl, rfl⟩, -⟩
            show Go p l e room_1 s m #[.int x0, .int x1, .int x2, .int x3] below meth c Z "com/example/llave/llave/policy/ObjectiveOfPinLaw" n0 _ (EnW s room_1 n0 Z consts_1 (fun v _ => v = some (.int 1))) _ _ _ 115 #[.val (.int x0), .val (.int x1), .val (.int x2), .val (.int x3), .val (.int (x0 &&& (3 : Int32))), .val (.int (x3 &&& 255)), .val (.int (0 : Int32)), .unset, .unset, .val (.ref la), .val (.ref (T.2.2.1 2)), .val (.int (-1 : Int32)), .unset, .unset, .unset] [(.int (12 : Int32))]
            refine Go.iload C at_115 rfl (pc' := 117) rfl ?_
            refine Go.iadd C at_117 (pc' := 118) rfl ?_
            show Go p l e room_1 s m #[.int x0, .int x1, .int x2, .int x3] below meth c Z "com/example/llave/llave/policy/ObjectiveOfPinLaw" n0 _ (EnW s room_1 n0 Z consts_1 (fun v _ => v = some (.int 1))) _ _ _ 118 #[.val (.int x0), .val (.int x1), .val (.int x2), .val (.int x3), .val (.int (x0 &&& (3 : Int32))), .val (.int (x3 &&& 255)), .val (.int (0 : Int32)), .unset, .unset, .val (.ref la), .val (.ref (T.2.2.1 2)), .val (.int (-1 : Int32)), .unset, .unset, .unset] [(.int (11 : Int32))]
            refine Go.istore C at_118 (L' := #[.val (.int x0), .val (.int x1), .val (.int x2), .val (.int x3), .val (.int (x0 &&& (3 : Int32))), .val (.int (x3 &&& 255)), .val (.int (0 : Int32)), .unset, .unset, .val (.ref la), .val (.ref (T.2.2.1 2)), .val (.int (-1 : Int32)), .val (.int (11 : Int32)), .unset, .unset]) rfl (pc' := 120) rfl ?_
            refine Go.iloadN C at_120 rfl (pc' := 121) rfl ?_
            refine Go.ldcInt C at_121 (hw _ (List.mem_of_getElem? (i := 11) rfl)) (pc' := 123) rfl ?_
            refine Go.iand C at_123 (pc' := 124) rfl ?_
            refine Go.iload C at_124 rfl (pc' := 126) rfl ?_
            refine Go.irem C at_126 (by decide) (pc' := 127) rfl ?_
            obtain ⟨P, hP, eP⟩ := own_rem 11 (by decide) (by decide) x2 11 rfl
            rw [eP]
            show Go p l e room_1 s m #[.int x0, .int x1, .int x2, .int x3] below meth c Z "com/example/llave/llave/policy/ObjectiveOfPinLaw" n0 _ (EnW s room_1 n0 Z consts_1 (fun v _ => v = some (.int 1))) _ _ _ 127 #[.val (.int x0), .val (.int x1), .val (.int x2), .val (.int x3), .val (.int (x0 &&& (3 : Int32))), .val (.int (x3 &&& 255)), .val (.int (0 : Int32)), .unset, .unset, .val (.ref la), .val (.ref (T.2.2.1 2)), .val (.int (-1 : Int32)), .val (.int (11 : Int32)), .unset, .unset] [(.int (Int32.ofNat P))]
            refine Go.istore C at_127 (L' := #[.val (.int x0), .val (.int x1), .val (.int x2), .val (.int x3), .val (.int (x0 &&& (3 : Int32))), .val (.int (x3 &&& 255)), .val (.int (0 : Int32)), .unset, .unset, .val (.ref la), .val (.ref (T.2.2.1 2)), .val (.int (-1 : Int32)), .val (.int (11 : Int32)), .val (.int (Int32.ofNat P)), .unset]) rfl (pc' := 129) rfl ?_
            refine Go.iload C at_129 rfl (pc' := 131) rfl ?_
            refine Go.if_eq_t C at_131 (by decide) (by decide) (pc' := 174) (by decide) ?_
            refine Go.aload C at_174 rfl rfl (pc' := 176) rfl ?_
            refine Go.iload C at_176 rfl (pc' := 178) rfl ?_
            refine Go.iload C at_178 rfl (pc' := 180) rfl ?_
            show Go p l e room_1 s m #[.int x0, .int x1, .int x2, .int x3] below meth c Z "com/example/llave/llave/policy/ObjectiveOfPinLaw" n0 _ (EnW s room_1 n0 Z consts_1 (fun v _ => v = some (.int 1))) h1 _ _ 180 #[.val (.int x0), .val (.int x1), .val (.int x2), .val (.int x3), .val (.int (x0 &&& (3 : Int32))), .val (.int (x3 &&& 255)), .val (.int (0 : Int32)), .unset, .unset, .val (.ref la), .val (.ref (T.2.2.1 2)), .val (.int (-1 : Int32)), .val (.int (11 : Int32)), .val (.int (Int32.ofNat P)), .unset] [(.int (x3 &&& 255)), (.int (Int32.ofNat 11)), (.ref la)]
            refine Go.callS C at_180 (hw _ (List.mem_of_getElem? (i := 25) rfl)) (hw _ (List.mem_of_getElem? (i := 26) rfl)) (hw _ (List.mem_of_getElem? (i := 27) rfl)) (hw _ (List.mem_of_getElem? (i := 28) rfl)) (by decide) (argsL := [(.ref la), (.int (Int32.ofNat 11)), (.int (x3 &&& 255))]) (rest := []) rfl (lenOf pd__Ljava_lang_String_IC_Ljava_lang_String_ rfl) rfl (W := 0) (Nat.le_of_ble_eq_true rfl) (Ct.pay (rm_make l Z a0 hw la lb lk (own_W 2) 11 x3 z fm h1 n0 Z1 S1 (by decide) (by decide) (by decide) St hz Fm rf O1) (hw _ (List.mem_of_getElem? (i := 28) rfl)) (hw _ (List.mem_of_getElem? (i := 27) rfl)) (by decide) (by decide)) (fun _ _ _ q => q.2) (by decide) (by decide) (fun _ _ _ _ q b => by obtain ⟨⟨_, _, _, _, K, _⟩, _⟩ := q; exact Bw.keep K (by simp) b) (pc' := 183) rfl ?_
            rintro _ h2 L2 ⟨⟨sa, ta, ks, rfl, K2, S2⟩, -⟩
            show Go p l e room_1 s m #[.int x0, .int x1, .int x2, .int x3] below meth c Z "com/example/llave/llave/policy/ObjectiveOfPinLaw" n0 _ (EnW s room_1 n0 Z consts_1 (fun v _ => v = some (.int 1))) _ _ _ 183 #[.val (.int x0), .val (.int x1), .val (.int x2), .val (.int x3), .val (.int (x0 &&& (3 : Int32))), .val (.int (x3 &&& 255)), .val (.int (0 : Int32)), .unset, .unset, .val (.ref la), .val (.ref (T.2.2.1 2)), .val (.int (-1 : Int32)), .val (.int (11 : Int32)), .val (.int (Int32.ofNat P)), .unset] [(.ref sa)]
            have O2 := O1.keep K2 all0
            have Z2 := Nat.le_trans Z1 K2.1
            have S1' := S1.keep K2 nin0 nin0
            refine Go.astore C at_183 rfl (L' := #[.val (.int x0), .val (.int x1), .val (.int x2), .val (.int x3), .val (.int (x0 &&& (3 : Int32))), .val (.int (x3 &&& 255)), .val (.int (0 : Int32)), .val (.ref sa), .unset, .val (.ref la), .val (.ref (T.2.2.1 2)), .val (.int (-1 : Int32)), .val (.int (11 : Int32)), .val (.int (Int32.ofNat P)), .unset]) rfl (pc' := 185) rfl ?_
            refine Go.iload C at_185 rfl (pc' := 187) rfl ?_
            refine Go.if_ne_t C at_187 (by decide) (by decide) (pc' := 194) (by decide) ?_
            refine Go.iconst C at_194 (v := 0) rfl (pc' := 195) rfl ?_
            refine Go.istore C at_195 (L' := #[.val (.int x0), .val (.int x1), .val (.int x2), .val (.int x3), .val (.int (x0 &&& (3 : Int32))), .val (.int (x3 &&& 255)), .val (.int (0 : Int32)), .val (.ref sa), .unset, .val (.ref la), .val (.ref (T.2.2.1 2)), .val (.int (-1 : Int32)), .val (.int (11 : Int32)), .val (.int (Int32.ofNat P)), .val (.int (0 : Int32))]) rfl (pc' := 197) rfl ?_
            refine Go.iload C at_197 rfl (pc' := 199) rfl ?_
            refine Go.if_eq_t C at_199 (by decide) (by decide) (pc' := 207) (by decide) ?_
            refine Go.aconstNull C at_207 (pc' := 208) rfl ?_
            refine Go.astore C at_208 rfl (L' := #[.val (.int x0), .val (.int x1), .val (.int x2), .val (.int x3), .val (.int (x0 &&& (3 : Int32))), .val (.int (x3 &&& 255)), .val (.int (0 : Int32)), .val (.ref sa), .val .null, .val (.ref la), .val (.ref (T.2.2.1 2)), .val (.int (-1 : Int32)), .val (.int (11 : Int32)), .val (.int (Int32.ofNat P)), .val (.int (0 : Int32))]) rfl (pc' := 210) rfl ?_
            refine Go.aload C at_210 rfl rfl (pc' := 212) rfl ?_
            refine Go.callS C at_212 (hw _ (List.mem_of_getElem? (i := 76) rfl)) (hw _ (List.mem_of_getElem? (i := 77) rfl)) (hw _ (List.mem_of_getElem? (i := 9) rfl)) (hw _ (List.mem_of_getElem? (i := 78) rfl)) (by decide) (argsL := [(.ref sa)]) (rest := []) rfl (lenOf pd__Ljava_lang_String__Ljava_util_Optional_ rfl) rfl (W := 0) (Nat.le_of_ble_eq_true rfl) (Ct.pay (rm_ofs l Z a0 hw sa ta ks (own_fill (own_W 2) (x3 &&& 255) 11 16) T z h2 n0 Z2 O2 GT St hz S2) (hw _ (List.mem_of_getElem? (i := 78) rfl)) (hw _ (List.mem_of_getElem? (i := 9) rfl)) (by decide) (by decide)) (fun _ _ _ q => q.2) (by decide) (by decide) (fun _ _ _ _ q b => by obtain ⟨⟨_, _, K, _⟩, _⟩ := q; exact Bw.keep K (by simp) b) (pc' := 215) rfl ?_
            rintro _ h9 L9 ⟨⟨f9, rfl, K9, A9, F9⟩, -⟩
            show Go p l e room_1 s m #[.int x0, .int x1, .int x2, .int x3] below meth c Z "com/example/llave/llave/policy/ObjectiveOfPinLaw" n0 _ (EnW s room_1 n0 Z consts_1 (fun v _ => v = some (.int 1))) _ _ _ 215 #[.val (.int x0), .val (.int x1), .val (.int x2), .val (.int x3), .val (.int (x0 &&& (3 : Int32))), .val (.int (x3 &&& 255)), .val (.int (0 : Int32)), .val (.ref sa), .val .null, .val (.ref la), .val (.ref (T.2.2.1 2)), .val (.int (-1 : Int32)), .val (.int (11 : Int32)), .val (.int (Int32.ofNat P)), .val (.int (0 : Int32))] [(.ref f9)]
            rw [own_none T.2.2.1 (own_fill (own_W 2) (x3 &&& 255) 11 16) (by simp [own_len])] at F9
            refine Go.aconstNull C at_215 (pc' := 216) rfl ?_
            refine Go.callV C at_216 (hw _ (List.mem_of_getElem? (i := 112) rfl)) (hw _ (List.mem_of_getElem? (i := 113) rfl)) (hw _ (List.mem_of_getElem? (i := 115) rfl)) (hw _ (List.mem_of_getElem? (i := 114) rfl)) (fun st hZ => notFace_of_selects (args := #[]) (mvT hZ (hw _ (List.mem_of_getElem? (i := 115) rfl)))) (by decide) A9 (argsL := [.null]) (rest := []) rfl (lenOf pd__Ljava_lang_Object__Ljava_lang_Object_ rfl) rfl (W := 0) (Nat.le_of_ble_eq_true rfl) (Ct.pay (rm_els l Z a0 hw f9 .null h9 n0 F9 (Or.inl rfl)) (hw _ (List.mem_of_getElem? (i := 116) rfl)) (hw _ (List.mem_of_getElem? (i := 81) rfl)) (by decide) (by decide)) (fun _ _ _ q => q.2) (by decide) (by decide) (fun _ _ _ _ q b => by obtain ⟨⟨_, rfl⟩, _⟩ := q; exact b) (pc' := 219) rfl ?_
            rintro _ _ L10 ⟨⟨rfl, rfl⟩, -⟩
            show Go p l e room_1 s m #[.int x0, .int x1, .int x2, .int x3] below meth c Z "com/example/llave/llave/policy/ObjectiveOfPinLaw" n0 _ (EnW s room_1 n0 Z consts_1 (fun v _ => v = some (.int 1))) _ _ _ 219 #[.val (.int x0), .val (.int x1), .val (.int x2), .val (.int x3), .val (.int (x0 &&& (3 : Int32))), .val (.int (x3 &&& 255)), .val (.int (0 : Int32)), .val (.ref sa), .val .null, .val (.ref la), .val (.ref (T.2.2.1 2)), .val (.int (-1 : Int32)), .val (.int (11 : Int32)), .val (.int (Int32.ofNat P)), .val (.int (0 : Int32))] [.null]
            refine Go.castNull C at_219 (pc' := 222) rfl ?_
            refine Go.astore C at_222 rfl (L' := #[.val (.int x0), .val (.int x1), .val (.int x2), .val (.int x3), .val (.int (x0 &&& (3 : Int32))), .val (.int (x3 &&& 255)), .val (.int (0 : Int32)), .val (.ref sa), .val .null, .val .null, .val (.ref (T.2.2.1 2)), .val (.int (-1 : Int32)), .val (.int (11 : Int32)), .val (.int (Int32.ofNat P)), .val (.int (0 : Int32))]) rfl (pc' := 224) rfl ?_
            refine Go.aload C at_224 rfl rfl (pc' := 226) rfl ?_
            refine Go.aload C at_226 rfl rfl (pc' := 228) rfl ?_
            refine Go.acmp_ne_f C at_228 rfl rfl rfl (by decide) (pc' := 231) rfl ?_
            refine Go.iconst C at_231 (v := 1) rfl (pc' := 232) rfl ?_
            refine Go.goto C at_232 (by decide) (pc' := 236) (by decide) ?_
            refine Go.retNW C hEL (by simp) at_236 (by decide) (by decide) ?_
            exact rfl
          · rw [ed]
            show Go p l e room_1 s m #[.int x0, .int x1, .int x2, .int x3] below meth c Z "com/example/llave/llave/policy/ObjectiveOfPinLaw" n0 _ (EnW s room_1 n0 Z consts_1 (fun v _ => v = some (.int 1))) _ _ _ 106 #[.val (.int x0), .val (.int x1), .val (.int x2), .val (.int x3), .val (.int (x0 &&& (3 : Int32))), .val (.int (x3 &&& 255)), .val (.int (0 : Int32)), .unset, .unset, .val (.ref la), .val (.ref (T.2.2.1 2)), .unset, .unset, .unset, .unset] [(.int (1 : Int32))]
            refine Go.iconst C at_106 (v := 1) rfl (pc' := 107) rfl ?_
            refine Go.isub C at_107 (pc' := 108) rfl ?_
            show Go p l e room_1 s m #[.int x0, .int x1, .int x2, .int x3] below meth c Z "com/example/llave/llave/policy/ObjectiveOfPinLaw" n0 _ (EnW s room_1 n0 Z consts_1 (fun v _ => v = some (.int 1))) _ _ _ 108 #[.val (.int x0), .val (.int x1), .val (.int x2), .val (.int x3), .val (.int (x0 &&& (3 : Int32))), .val (.int (x3 &&& 255)), .val (.int (0 : Int32)), .unset, .unset, .val (.ref la), .val (.ref (T.2.2.1 2)), .unset, .unset, .unset, .unset] [(.int (0 : Int32))]
            refine Go.istore C at_108 (L' := #[.val (.int x0), .val (.int x1), .val (.int x2), .val (.int x3), .val (.int (x0 &&& (3 : Int32))), .val (.int (x3 &&& 255)), .val (.int (0 : Int32)), .unset, .unset, .val (.ref la), .val (.ref (T.2.2.1 2)), .val (.int (0 : Int32)), .unset, .unset, .unset]) rfl (pc' := 110) rfl ?_
            refine Go.aload C at_110 rfl rfl (pc' := 112) rfl ?_
            refine Go.callV C at_112 (hw _ (List.mem_of_getElem? (i := 12) rfl)) (hw _ (List.mem_of_getElem? (i := 13) rfl)) (hw _ (List.mem_of_getElem? (i := 15) rfl)) (hw _ (List.mem_of_getElem? (i := 14) rfl)) (fun st hZ => notFace_of_selects (args := #[]) (mvT hZ (hw _ (List.mem_of_getElem? (i := 15) rfl)))) (by decide) S1.1 (argsL := []) (rest := []) rfl (lenOf pd___I rfl) rfl (W := 0) (Nat.le_of_ble_eq_true rfl) (own_lenP hw S1 (St.ext O1.2) hz (by decide) (by decide)) (fun _ _ _ q => q.2) (by decide) (by decide) (fun _ _ _ _ q b => by obtain ⟨⟨_, rfl⟩, _⟩ := q; exact b) (pc' := 115) rfl ?_
            rintro _ _ L1 ⟨⟨rfl, rfl⟩, -⟩
            show Go p l e room_1 s m #[.int x0, .int x1, .int x2, .int x3] below meth c Z "com/example/llave/llave/policy/ObjectiveOfPinLaw" n0 _ (EnW s room_1 n0 Z consts_1 (fun v _ => v = some (.int 1))) _ _ _ 115 #[.val (.int x0), .val (.int x1), .val (.int x2), .val (.int x3), .val (.int (x0 &&& (3 : Int32))), .val (.int (x3 &&& 255)), .val (.int (0 : Int32)), .unset, .unset, .val (.ref la), .val (.ref (T.2.2.1 2)), .val (.int (0 : Int32)), .unset, .unset, .unset] [(.int (12 : Int32))]
            refine Go.iload C at_115 rfl (pc' := 117) rfl ?_
            refine Go.iadd C at_117 (pc' := 118) rfl ?_
            show Go p l e room_1 s m #[.int x0, .int x1, .int x2, .int x3] below meth c Z "com/example/llave/llave/policy/ObjectiveOfPinLaw" n0 _ (EnW s room_1 n0 Z consts_1 (fun v _ => v = some (.int 1))) _ _ _ 118 #[.val (.int x0), .val (.int x1), .val (.int x2), .val (.int x3), .val (.int (x0 &&& (3 : Int32))), .val (.int (x3 &&& 255)), .val (.int (0 : Int32)), .unset, .unset, .val (.ref la), .val (.ref (T.2.2.1 2)), .val (.int (0 : Int32)), .unset, .unset, .unset] [(.int (12 : Int32))]
            refine Go.istore C at_118 (L' := #[.val (.int x0), .val (.int x1), .val (.int x2), .val (.int x3), .val (.int (x0 &&& (3 : Int32))), .val (.int (x3 &&& 255)), .val (.int (0 : Int32)), .unset, .unset, .val (.ref la), .val (.ref (T.2.2.1 2)), .val (.int (0 : Int32)), .val (.int (12 : Int32)), .unset, .unset]) rfl (pc' := 120) rfl ?_
            refine Go.iloadN C at_120 rfl (pc' := 121) rfl ?_
            refine Go.ldcInt C at_121 (hw _ (List.mem_of_getElem? (i := 11) rfl)) (pc' := 123) rfl ?_
            refine Go.iand C at_123 (pc' := 124) rfl ?_
            refine Go.iload C at_124 rfl (pc' := 126) rfl ?_
            refine Go.irem C at_126 (by decide) (pc' := 127) rfl ?_
            obtain ⟨P, hP, eP⟩ := own_rem 12 (by decide) (by decide) x2 12 rfl
            rw [eP]
            show Go p l e room_1 s m #[.int x0, .int x1, .int x2, .int x3] below meth c Z "com/example/llave/llave/policy/ObjectiveOfPinLaw" n0 _ (EnW s room_1 n0 Z consts_1 (fun v _ => v = some (.int 1))) _ _ _ 127 #[.val (.int x0), .val (.int x1), .val (.int x2), .val (.int x3), .val (.int (x0 &&& (3 : Int32))), .val (.int (x3 &&& 255)), .val (.int (0 : Int32)), .unset, .unset, .val (.ref la), .val (.ref (T.2.2.1 2)), .val (.int (0 : Int32)), .val (.int (12 : Int32)), .unset, .unset] [(.int (Int32.ofNat P))]
            refine Go.istore C at_127 (L' := #[.val (.int x0), .val (.int x1), .val (.int x2), .val (.int x3), .val (.int (x0 &&& (3 : Int32))), .val (.int (x3 &&& 255)), .val (.int (0 : Int32)), .unset, .unset, .val (.ref la), .val (.ref (T.2.2.1 2)), .val (.int (0 : Int32)), .val (.int (12 : Int32)), .val (.int (Int32.ofNat P)), .unset]) rfl (pc' := 129) rfl ?_
            refine Go.iload C at_129 rfl (pc' := 131) rfl ?_
            refine Go.if_eq_t C at_131 (by decide) (by decide) (pc' := 174) (by decide) ?_
            refine Go.aload C at_174 rfl rfl (pc' := 176) rfl ?_
            refine Go.iload C at_176 rfl (pc' := 178) rfl ?_
            refine Go.iload C at_178 rfl (pc' := 180) rfl ?_
            show Go p l e room_1 s m #[.int x0, .int x1, .int x2, .int x3] below meth c Z "com/example/llave/llave/policy/ObjectiveOfPinLaw" n0 _ (EnW s room_1 n0 Z consts_1 (fun v _ => v = some (.int 1))) h1 _ _ 180 #[.val (.int x0), .val (.int x1), .val (.int x2), .val (.int x3), .val (.int (x0 &&& (3 : Int32))), .val (.int (x3 &&& 255)), .val (.int (0 : Int32)), .unset, .unset, .val (.ref la), .val (.ref (T.2.2.1 2)), .val (.int (0 : Int32)), .val (.int (12 : Int32)), .val (.int (Int32.ofNat P)), .unset] [(.int (x3 &&& 255)), (.int (Int32.ofNat 12)), (.ref la)]
            refine Go.callS C at_180 (hw _ (List.mem_of_getElem? (i := 25) rfl)) (hw _ (List.mem_of_getElem? (i := 26) rfl)) (hw _ (List.mem_of_getElem? (i := 27) rfl)) (hw _ (List.mem_of_getElem? (i := 28) rfl)) (by decide) (argsL := [(.ref la), (.int (Int32.ofNat 12)), (.int (x3 &&& 255))]) (rest := []) rfl (lenOf pd__Ljava_lang_String_IC_Ljava_lang_String_ rfl) rfl (W := 0) (Nat.le_of_ble_eq_true rfl) (Ct.pay (rm_make l Z a0 hw la lb lk (own_W 2) 12 x3 z fm h1 n0 Z1 S1 (by decide) (by decide) (by decide) St hz Fm rf O1) (hw _ (List.mem_of_getElem? (i := 28) rfl)) (hw _ (List.mem_of_getElem? (i := 27) rfl)) (by decide) (by decide)) (fun _ _ _ q => q.2) (by decide) (by decide) (fun _ _ _ _ q b => by obtain ⟨⟨_, _, _, _, K, _⟩, _⟩ := q; exact Bw.keep K (by simp) b) (pc' := 183) rfl ?_
            rintro _ h2 L2 ⟨⟨sa, ta, ks, rfl, K2, S2⟩, -⟩
            show Go p l e room_1 s m #[.int x0, .int x1, .int x2, .int x3] below meth c Z "com/example/llave/llave/policy/ObjectiveOfPinLaw" n0 _ (EnW s room_1 n0 Z consts_1 (fun v _ => v = some (.int 1))) _ _ _ 183 #[.val (.int x0), .val (.int x1), .val (.int x2), .val (.int x3), .val (.int (x0 &&& (3 : Int32))), .val (.int (x3 &&& 255)), .val (.int (0 : Int32)), .unset, .unset, .val (.ref la), .val (.ref (T.2.2.1 2)), .val (.int (0 : Int32)), .val (.int (12 : Int32)), .val (.int (Int32.ofNat P)), .unset] [(.ref sa)]
            have O2 := O1.keep K2 all0
            have Z2 := Nat.le_trans Z1 K2.1
            have S1' := S1.keep K2 nin0 nin0
            refine Go.astore C at_183 rfl (L' := #[.val (.int x0), .val (.int x1), .val (.int x2), .val (.int x3), .val (.int (x0 &&& (3 : Int32))), .val (.int (x3 &&& 255)), .val (.int (0 : Int32)), .val (.ref sa), .unset, .val (.ref la), .val (.ref (T.2.2.1 2)), .val (.int (0 : Int32)), .val (.int (12 : Int32)), .val (.int (Int32.ofNat P)), .unset]) rfl (pc' := 185) rfl ?_
            refine Go.iload C at_185 rfl (pc' := 187) rfl ?_
            refine Go.if_ne_f C at_187 (by decide) (pc' := 190) rfl ?_
            refine Go.iconst C at_190 (v := 1) rfl (pc' := 191) rfl ?_
            refine Go.goto C at_191 (by decide) (pc' := 195) (by decide) ?_
            refine Go.istore C at_195 (L' := #[.val (.int x0), .val (.int x1), .val (.int x2), .val (.int x3), .val (.int (x0 &&& (3 : Int32))), .val (.int (x3 &&& 255)), .val (.int (0 : Int32)), .val (.ref sa), .unset, .val (.ref la), .val (.ref (T.2.2.1 2)), .val (.int (0 : Int32)), .val (.int (12 : Int32)), .val (.int (Int32.ofNat P)), .val (.int (1 : Int32))]) rfl (pc' := 197) rfl ?_
            refine Go.iload C at_197 rfl (pc' := 199) rfl ?_
            refine Go.if_eq_f C at_199 (by decide) (pc' := 202) rfl ?_
            refine Go.aload C at_202 rfl rfl (pc' := 204) rfl ?_
            refine Go.goto C at_204 (by decide) (pc' := 208) (by decide) ?_
            refine Go.astore C at_208 rfl (L' := #[.val (.int x0), .val (.int x1), .val (.int x2), .val (.int x3), .val (.int (x0 &&& (3 : Int32))), .val (.int (x3 &&& 255)), .val (.int (0 : Int32)), .val (.ref sa), .val (.ref (T.2.2.1 2)), .val (.ref la), .val (.ref (T.2.2.1 2)), .val (.int (0 : Int32)), .val (.int (12 : Int32)), .val (.int (Int32.ofNat P)), .val (.int (1 : Int32))]) rfl (pc' := 210) rfl ?_
            refine Go.aload C at_210 rfl rfl (pc' := 212) rfl ?_
            refine Go.callS C at_212 (hw _ (List.mem_of_getElem? (i := 76) rfl)) (hw _ (List.mem_of_getElem? (i := 77) rfl)) (hw _ (List.mem_of_getElem? (i := 9) rfl)) (hw _ (List.mem_of_getElem? (i := 78) rfl)) (by decide) (argsL := [(.ref sa)]) (rest := []) rfl (lenOf pd__Ljava_lang_String__Ljava_util_Optional_ rfl) rfl (W := 0) (Nat.le_of_ble_eq_true rfl) (Ct.pay (rm_ofs l Z a0 hw sa ta ks (own_fill (own_W 2) (x3 &&& 255) 12 16) T z h2 n0 Z2 O2 GT St hz S2) (hw _ (List.mem_of_getElem? (i := 78) rfl)) (hw _ (List.mem_of_getElem? (i := 9) rfl)) (by decide) (by decide)) (fun _ _ _ q => q.2) (by decide) (by decide) (fun _ _ _ _ q b => by obtain ⟨⟨_, _, K, _⟩, _⟩ := q; exact Bw.keep K (by simp) b) (pc' := 215) rfl ?_
            rintro _ h9 L9 ⟨⟨f9, rfl, K9, A9, F9⟩, -⟩
            show Go p l e room_1 s m #[.int x0, .int x1, .int x2, .int x3] below meth c Z "com/example/llave/llave/policy/ObjectiveOfPinLaw" n0 _ (EnW s room_1 n0 Z consts_1 (fun v _ => v = some (.int 1))) _ _ _ 215 #[.val (.int x0), .val (.int x1), .val (.int x2), .val (.int x3), .val (.int (x0 &&& (3 : Int32))), .val (.int (x3 &&& 255)), .val (.int (0 : Int32)), .val (.ref sa), .val (.ref (T.2.2.1 2)), .val (.ref la), .val (.ref (T.2.2.1 2)), .val (.int (0 : Int32)), .val (.int (12 : Int32)), .val (.int (Int32.ofNat P)), .val (.int (1 : Int32))] [(.ref f9)]
            rw [own_same2] at F9
            refine Go.aconstNull C at_215 (pc' := 216) rfl ?_
            refine Go.callV C at_216 (hw _ (List.mem_of_getElem? (i := 112) rfl)) (hw _ (List.mem_of_getElem? (i := 113) rfl)) (hw _ (List.mem_of_getElem? (i := 115) rfl)) (hw _ (List.mem_of_getElem? (i := 114) rfl)) (fun st hZ => notFace_of_selects (args := #[]) (mvT hZ (hw _ (List.mem_of_getElem? (i := 115) rfl)))) (by decide) A9 (argsL := [.null]) (rest := []) rfl (lenOf pd__Ljava_lang_Object__Ljava_lang_Object_ rfl) rfl (W := 0) (Nat.le_of_ble_eq_true rfl) (Ct.pay (rm_els l Z a0 hw f9 (.ref (T.2.2.1 2)) h9 n0 F9 (Or.inr ⟨_, rfl⟩)) (hw _ (List.mem_of_getElem? (i := 116) rfl)) (hw _ (List.mem_of_getElem? (i := 81) rfl)) (by decide) (by decide)) (fun _ _ _ q => q.2) (by decide) (by decide) (fun _ _ _ _ q b => by obtain ⟨⟨_, rfl⟩, _⟩ := q; exact b) (pc' := 219) rfl ?_
            rintro _ _ L10 ⟨⟨rfl, rfl⟩, -⟩
            show Go p l e room_1 s m #[.int x0, .int x1, .int x2, .int x3] below meth c Z "com/example/llave/llave/policy/ObjectiveOfPinLaw" n0 _ (EnW s room_1 n0 Z consts_1 (fun v _ => v = some (.int 1))) _ _ _ 219 #[.val (.int x0), .val (.int x1), .val (.int x2), .val (.int x3), .val (.int (x0 &&& (3 : Int32))), .val (.int (x3 &&& 255)), .val (.int (0 : Int32)), .val (.ref sa), .val (.ref (T.2.2.1 2)), .val (.ref la), .val (.ref (T.2.2.1 2)), .val (.int (0 : Int32)), .val (.int (12 : Int32)), .val (.int (Int32.ofNat P)), .val (.int (1 : Int32))] [(.ref (T.2.2.1 2))]
            refine Go.castY C at_219 (hw _ (List.mem_of_getElem? (i := 141) rfl)) (Ins.self (((Gj 2).1.ext O2.2).keep K9)) (pc' := 222) rfl ?_
            refine Go.astore C at_222 rfl (L' := #[.val (.int x0), .val (.int x1), .val (.int x2), .val (.int x3), .val (.int (x0 &&& (3 : Int32))), .val (.int (x3 &&& 255)), .val (.int (0 : Int32)), .val (.ref sa), .val (.ref (T.2.2.1 2)), .val (.ref (T.2.2.1 2)), .val (.ref (T.2.2.1 2)), .val (.int (0 : Int32)), .val (.int (12 : Int32)), .val (.int (Int32.ofNat P)), .val (.int (1 : Int32))]) rfl (pc' := 224) rfl ?_
            refine Go.aload C at_224 rfl rfl (pc' := 226) rfl ?_
            refine Go.aload C at_226 rfl rfl (pc' := 228) rfl ?_
            refine Go.acmp_ne_f C at_228 rfl rfl rfl (by decide) (pc' := 231) rfl ?_
            refine Go.iconst C at_231 (v := 1) rfl (pc' := 232) rfl ?_
            refine Go.goto C at_232 (by decide) (pc' := 236) (by decide) ?_
            refine Go.retNW C hEL (by simp) at_236 (by decide) (by decide) ?_
            exact rfl
          · rw [ed]
            show Go p l e room_1 s m #[.int x0, .int x1, .int x2, .int x3] below meth c Z "com/example/llave/llave/policy/ObjectiveOfPinLaw" n0 _ (EnW s room_1 n0 Z consts_1 (fun v _ => v = some (.int 1))) _ _ _ 106 #[.val (.int x0), .val (.int x1), .val (.int x2), .val (.int x3), .val (.int (x0 &&& (3 : Int32))), .val (.int (x3 &&& 255)), .val (.int (0 : Int32)), .unset, .unset, .val (.ref la), .val (.ref (T.2.2.1 2)), .unset, .unset, .unset, .unset] [(.int (2 : Int32))]
            refine Go.iconst C at_106 (v := 1) rfl (pc' := 107) rfl ?_
            refine Go.isub C at_107 (pc' := 108) rfl ?_
            show Go p l e room_1 s m #[.int x0, .int x1, .int x2, .int x3] below meth c Z "com/example/llave/llave/policy/ObjectiveOfPinLaw" n0 _ (EnW s room_1 n0 Z consts_1 (fun v _ => v = some (.int 1))) _ _ _ 108 #[.val (.int x0), .val (.int x1), .val (.int x2), .val (.int x3), .val (.int (x0 &&& (3 : Int32))), .val (.int (x3 &&& 255)), .val (.int (0 : Int32)), .unset, .unset, .val (.ref la), .val (.ref (T.2.2.1 2)), .unset, .unset, .unset, .unset] [(.int (1 : Int32))]
            refine Go.istore C at_108 (L' := #[.val (.int x0), .val (.int x1), .val (.int x2), .val (.int x3), .val (.int (x0 &&& (3 : Int32))), .val (.int (x3 &&& 255)), .val (.int (0 : Int32)), .unset, .unset, .val (.ref la), .val (.ref (T.2.2.1 2)), .val (.int (1 : Int32)), .unset, .unset, .unset]) rfl (pc' := 110) rfl ?_
            refine Go.aload C at_110 rfl rfl (pc' := 112) rfl ?_
            refine Go.callV C at_112 (hw _ (List.mem_of_getElem? (i := 12) rfl)) (hw _ (List.mem_of_getElem? (i := 13) rfl)) (hw _ (List.mem_of_getElem? (i := 15) rfl)) (hw _ (List.mem_of_getElem? (i := 14) rfl)) (fun st hZ => notFace_of_selects (args := #[]) (mvT hZ (hw _ (List.mem_of_getElem? (i := 15) rfl)))) (by decide) S1.1 (argsL := []) (rest := []) rfl (lenOf pd___I rfl) rfl (W := 0) (Nat.le_of_ble_eq_true rfl) (own_lenP hw S1 (St.ext O1.2) hz (by decide) (by decide)) (fun _ _ _ q => q.2) (by decide) (by decide) (fun _ _ _ _ q b => by obtain ⟨⟨_, rfl⟩, _⟩ := q; exact b) (pc' := 115) rfl ?_
            rintro _ _ L1 ⟨⟨rfl, rfl⟩, -⟩
            show Go p l e room_1 s m #[.int x0, .int x1, .int x2, .int x3] below meth c Z "com/example/llave/llave/policy/ObjectiveOfPinLaw" n0 _ (EnW s room_1 n0 Z consts_1 (fun v _ => v = some (.int 1))) _ _ _ 115 #[.val (.int x0), .val (.int x1), .val (.int x2), .val (.int x3), .val (.int (x0 &&& (3 : Int32))), .val (.int (x3 &&& 255)), .val (.int (0 : Int32)), .unset, .unset, .val (.ref la), .val (.ref (T.2.2.1 2)), .val (.int (1 : Int32)), .unset, .unset, .unset] [(.int (12 : Int32))]
            refine Go.iload C at_115 rfl (pc' := 117) rfl ?_
            refine Go.iadd C at_117 (pc' := 118) rfl ?_
            show Go p l e room_1 s m #[.int x0, .int x1, .int x2, .int x3] below meth c Z "com/example/llave/llave/policy/ObjectiveOfPinLaw" n0 _ (EnW s room_1 n0 Z consts_1 (fun v _ => v = some (.int 1))) _ _ _ 118 #[.val (.int x0), .val (.int x1), .val (.int x2), .val (.int x3), .val (.int (x0 &&& (3 : Int32))), .val (.int (x3 &&& 255)), .val (.int (0 : Int32)), .unset, .unset, .val (.ref la), .val (.ref (T.2.2.1 2)), .val (.int (1 : Int32)), .unset, .unset, .unset] [(.int (13 : Int32))]
            refine Go.istore C at_118 (L' := #[.val (.int x0), .val (.int x1), .val (.int x2), .val (.int x3), .val (.int (x0 &&& (3 : Int32))), .val (.int (x3 &&& 255)), .val (.int (0 : Int32)), .unset, .unset, .val (.ref la), .val (.ref (T.2.2.1 2)), .val (.int (1 : Int32)), .val (.int (13 : Int32)), .unset, .unset]) rfl (pc' := 120) rfl ?_
            refine Go.iloadN C at_120 rfl (pc' := 121) rfl ?_
            refine Go.ldcInt C at_121 (hw _ (List.mem_of_getElem? (i := 11) rfl)) (pc' := 123) rfl ?_
            refine Go.iand C at_123 (pc' := 124) rfl ?_
            refine Go.iload C at_124 rfl (pc' := 126) rfl ?_
            refine Go.irem C at_126 (by decide) (pc' := 127) rfl ?_
            obtain ⟨P, hP, eP⟩ := own_rem 13 (by decide) (by decide) x2 13 rfl
            rw [eP]
            show Go p l e room_1 s m #[.int x0, .int x1, .int x2, .int x3] below meth c Z "com/example/llave/llave/policy/ObjectiveOfPinLaw" n0 _ (EnW s room_1 n0 Z consts_1 (fun v _ => v = some (.int 1))) _ _ _ 127 #[.val (.int x0), .val (.int x1), .val (.int x2), .val (.int x3), .val (.int (x0 &&& (3 : Int32))), .val (.int (x3 &&& 255)), .val (.int (0 : Int32)), .unset, .unset, .val (.ref la), .val (.ref (T.2.2.1 2)), .val (.int (1 : Int32)), .val (.int (13 : Int32)), .unset, .unset] [(.int (Int32.ofNat P))]
            refine Go.istore C at_127 (L' := #[.val (.int x0), .val (.int x1), .val (.int x2), .val (.int x3), .val (.int (x0 &&& (3 : Int32))), .val (.int (x3 &&& 255)), .val (.int (0 : Int32)), .unset, .unset, .val (.ref la), .val (.ref (T.2.2.1 2)), .val (.int (1 : Int32)), .val (.int (13 : Int32)), .val (.int (Int32.ofNat P)), .unset]) rfl (pc' := 129) rfl ?_
            refine Go.iload C at_129 rfl (pc' := 131) rfl ?_
            refine Go.if_eq_t C at_131 (by decide) (by decide) (pc' := 174) (by decide) ?_
            refine Go.aload C at_174 rfl rfl (pc' := 176) rfl ?_
            refine Go.iload C at_176 rfl (pc' := 178) rfl ?_
            refine Go.iload C at_178 rfl (pc' := 180) rfl ?_
            show Go p l e room_1 s m #[.int x0, .int x1, .int x2, .int x3] below meth c Z "com/example/llave/llave/policy/ObjectiveOfPinLaw" n0 _ (EnW s room_1 n0 Z consts_1 (fun v _ => v = some (.int 1))) h1 _ _ 180 #[.val (.int x0), .val (.int x1), .val (.int x2), .val (.int x3), .val (.int (x0 &&& (3 : Int32))), .val (.int (x3 &&& 255)), .val (.int (0 : Int32)), .unset, .unset, .val (.ref la), .val (.ref (T.2.2.1 2)), .val (.int (1 : Int32)), .val (.int (13 : Int32)), .val (.int (Int32.ofNat P)), .unset] [(.int (x3 &&& 255)), (.int (Int32.ofNat 13)), (.ref la)]
            refine Go.callS C at_180 (hw _ (List.mem_of_getElem? (i := 25) rfl)) (hw _ (List.mem_of_getElem? (i := 26) rfl)) (hw _ (List.mem_of_getElem? (i := 27) rfl)) (hw _ (List.mem_of_getElem? (i := 28) rfl)) (by decide) (argsL := [(.ref la), (.int (Int32.ofNat 13)), (.int (x3 &&& 255))]) (rest := []) rfl (lenOf pd__Ljava_lang_String_IC_Ljava_lang_String_ rfl) rfl (W := 0) (Nat.le_of_ble_eq_true rfl) (Ct.pay (rm_make l Z a0 hw la lb lk (own_W 2) 13 x3 z fm h1 n0 Z1 S1 (by decide) (by decide) (by decide) St hz Fm rf O1) (hw _ (List.mem_of_getElem? (i := 28) rfl)) (hw _ (List.mem_of_getElem? (i := 27) rfl)) (by decide) (by decide)) (fun _ _ _ q => q.2) (by decide) (by decide) (fun _ _ _ _ q b => by obtain ⟨⟨_, _, _, _, K, _⟩, _⟩ := q; exact Bw.keep K (by simp) b) (pc' := 183) rfl ?_
            rintro _ h2 L2 ⟨⟨sa, ta, ks, rfl, K2, S2⟩, -⟩
            show Go p l e room_1 s m #[.int x0, .int x1, .int x2, .int x3] below meth c Z "com/example/llave/llave/policy/ObjectiveOfPinLaw" n0 _ (EnW s room_1 n0 Z consts_1 (fun v _ => v = some (.int 1))) _ _ _ 183 #[.val (.int x0), .val (.int x1), .val (.int x2), .val (.int x3), .val (.int (x0 &&& (3 : Int32))), .val (.int (x3 &&& 255)), .val (.int (0 : Int32)), .unset, .unset, .val (.ref la), .val (.ref (T.2.2.1 2)), .val (.int (1 : Int32)), .val (.int (13 : Int32)), .val (.int (Int32.ofNat P)), .unset] [(.ref sa)]
            have O2 := O1.keep K2 all0
            have Z2 := Nat.le_trans Z1 K2.1
            have S1' := S1.keep K2 nin0 nin0
            refine Go.astore C at_183 rfl (L' := #[.val (.int x0), .val (.int x1), .val (.int x2), .val (.int x3), .val (.int (x0 &&& (3 : Int32))), .val (.int (x3 &&& 255)), .val (.int (0 : Int32)), .val (.ref sa), .unset, .val (.ref la), .val (.ref (T.2.2.1 2)), .val (.int (1 : Int32)), .val (.int (13 : Int32)), .val (.int (Int32.ofNat P)), .unset]) rfl (pc' := 185) rfl ?_
            refine Go.iload C at_185 rfl (pc' := 187) rfl ?_
            refine Go.if_ne_t C at_187 (by decide) (by decide) (pc' := 194) (by decide) ?_
            refine Go.iconst C at_194 (v := 0) rfl (pc' := 195) rfl ?_
            refine Go.istore C at_195 (L' := #[.val (.int x0), .val (.int x1), .val (.int x2), .val (.int x3), .val (.int (x0 &&& (3 : Int32))), .val (.int (x3 &&& 255)), .val (.int (0 : Int32)), .val (.ref sa), .unset, .val (.ref la), .val (.ref (T.2.2.1 2)), .val (.int (1 : Int32)), .val (.int (13 : Int32)), .val (.int (Int32.ofNat P)), .val (.int (0 : Int32))]) rfl (pc' := 197) rfl ?_
            refine Go.iload C at_197 rfl (pc' := 199) rfl ?_
            refine Go.if_eq_t C at_199 (by decide) (by decide) (pc' := 207) (by decide) ?_
            refine Go.aconstNull C at_207 (pc' := 208) rfl ?_
            refine Go.astore C at_208 rfl (L' := #[.val (.int x0), .val (.int x1), .val (.int x2), .val (.int x3), .val (.int (x0 &&& (3 : Int32))), .val (.int (x3 &&& 255)), .val (.int (0 : Int32)), .val (.ref sa), .val .null, .val (.ref la), .val (.ref (T.2.2.1 2)), .val (.int (1 : Int32)), .val (.int (13 : Int32)), .val (.int (Int32.ofNat P)), .val (.int (0 : Int32))]) rfl (pc' := 210) rfl ?_
            refine Go.aload C at_210 rfl rfl (pc' := 212) rfl ?_
            refine Go.callS C at_212 (hw _ (List.mem_of_getElem? (i := 76) rfl)) (hw _ (List.mem_of_getElem? (i := 77) rfl)) (hw _ (List.mem_of_getElem? (i := 9) rfl)) (hw _ (List.mem_of_getElem? (i := 78) rfl)) (by decide) (argsL := [(.ref sa)]) (rest := []) rfl (lenOf pd__Ljava_lang_String__Ljava_util_Optional_ rfl) rfl (W := 0) (Nat.le_of_ble_eq_true rfl) (Ct.pay (rm_ofs l Z a0 hw sa ta ks (own_fill (own_W 2) (x3 &&& 255) 13 16) T z h2 n0 Z2 O2 GT St hz S2) (hw _ (List.mem_of_getElem? (i := 78) rfl)) (hw _ (List.mem_of_getElem? (i := 9) rfl)) (by decide) (by decide)) (fun _ _ _ q => q.2) (by decide) (by decide) (fun _ _ _ _ q b => by obtain ⟨⟨_, _, K, _⟩, _⟩ := q; exact Bw.keep K (by simp) b) (pc' := 215) rfl ?_
            rintro _ h9 L9 ⟨⟨f9, rfl, K9, A9, F9⟩, -⟩
            show Go p l e room_1 s m #[.int x0, .int x1, .int x2, .int x3] below meth c Z "com/example/llave/llave/policy/ObjectiveOfPinLaw" n0 _ (EnW s room_1 n0 Z consts_1 (fun v _ => v = some (.int 1))) _ _ _ 215 #[.val (.int x0), .val (.int x1), .val (.int x2), .val (.int x3), .val (.int (x0 &&& (3 : Int32))), .val (.int (x3 &&& 255)), .val (.int (0 : Int32)), .val (.ref sa), .val .null, .val (.ref la), .val (.ref (T.2.2.1 2)), .val (.int (1 : Int32)), .val (.int (13 : Int32)), .val (.int (Int32.ofNat P)), .val (.int (0 : Int32))] [(.ref f9)]
            rw [own_none T.2.2.1 (own_fill (own_W 2) (x3 &&& 255) 13 16) (by simp [own_len])] at F9
            refine Go.aconstNull C at_215 (pc' := 216) rfl ?_
            refine Go.callV C at_216 (hw _ (List.mem_of_getElem? (i := 112) rfl)) (hw _ (List.mem_of_getElem? (i := 113) rfl)) (hw _ (List.mem_of_getElem? (i := 115) rfl)) (hw _ (List.mem_of_getElem? (i := 114) rfl)) (fun st hZ => notFace_of_selects (args := #[]) (mvT hZ (hw _ (List.mem_of_getElem? (i := 115) rfl)))) (by decide) A9 (argsL := [.null]) (rest := []) rfl (lenOf pd__Ljava_lang_Object__Ljava_lang_Object_ rfl) rfl (W := 0) (Nat.le_of_ble_eq_true rfl) (Ct.pay (rm_els l Z a0 hw f9 .null h9 n0 F9 (Or.inl rfl)) (hw _ (List.mem_of_getElem? (i := 116) rfl)) (hw _ (List.mem_of_getElem? (i := 81) rfl)) (by decide) (by decide)) (fun _ _ _ q => q.2) (by decide) (by decide) (fun _ _ _ _ q b => by obtain ⟨⟨_, rfl⟩, _⟩ := q; exact b) (pc' := 219) rfl ?_
            rintro _ _ L10 ⟨⟨rfl, rfl⟩, -⟩
            show Go p l e room_1 s m #[.int x0, .int x1, .int x2, .int x3] below meth c Z "com/example/llave/llave/policy/ObjectiveOfPinLaw" n0 _ (EnW s room_1 n0 Z consts_1 (fun v _ => v = some (.int 1))) _ _ _ 219 #[.val (.int x0), .val (.int x1), .val (.int x2), .val (.int x3), .val (.int (x0 &&& (3 : Int32))), .val (.int (x3 &&& 255)), .val (.int (0 : Int32)), .val (.ref sa), .val .null, .val (.ref la), .val (.ref (T.2.2.1 2)), .val (.int (1 : Int32)), .val (.int (13 : Int32)), .val (.int (Int32.ofNat P)), .val (.int (0 : Int32))] [.null]
            refine Go.castNull C at_219 (pc' := 222) rfl ?_
            refine Go.astore C at_222 rfl (L' := #[.val (.int x0), .val (.int x1), .val (.int x2), .val (.int x3), .val (.int (x0 &&& (3 : Int32))), .val (.int (x3 &&& 255)), .val (.int (0 : Int32)), .val (.ref sa), .val .null, .val .null, .val (.ref (T.2.2.1 2)), .val (.int (1 : Int32)), .val (.int (13 : Int32)), .val (.int (Int32.ofNat P)), .val (.int (0 : Int32))]) rfl (pc' := 224) rfl ?_
            refine Go.aload C at_224 rfl rfl (pc' := 226) rfl ?_
            refine Go.aload C at_226 rfl rfl (pc' := 228) rfl ?_
            refine Go.acmp_ne_f C at_228 rfl rfl rfl (by decide) (pc' := 231) rfl ?_
            refine Go.iconst C at_231 (v := 1) rfl (pc' := 232) rfl ?_
            refine Go.goto C at_232 (by decide) (pc' := 236) (by decide) ?_
            refine Go.retNW C hEL (by simp) at_236 (by decide) (by decide) ?_
            exact rfl
        · refine Go.ldcW C at_79 (hw _ (List.mem_of_getElem? (i := 124) rfl)) own_sa hEL (by decide) (vs := (((own_W 1) : List Int32).map fun c => c.toInt8.toInt32).map Value.int) (z := 9) (n := 36) ⟨by decide, by decide⟩ (by decide) (by decide) (by decide) (by decide) (by decide) (by decide) (pc' := 81) rfl ?_
          intro h1 la lb lk X1 A1 C1 V1 Y1 N1
          have S1 : Str Z h1 la lb lk (own_W 1) := ⟨A1, C1, V1, Y1, by decide, by decide⟩
          have O1 := O0.ext X1
          have Z1 := Nat.le_trans Z0 X1.1
          refine Go.astore C at_81 rfl (L' := #[.val (.int x0), .val (.int x1), .val (.int x2), .val (.int x3), .val (.int (x0 &&& (3 : Int32))), .val (.int (x3 &&& 255)), .val (.int (0 : Int32)), .unset, .unset, .val (.ref la), .unset, .unset, .unset, .unset, .unset]) rfl (pc' := 83) rfl ?_
          refine Go.getS C at_83 (hw _ (List.mem_of_getElem? (i := 125) rfl)) Via.refl ((Gs.2.1).ext O1.2) (pc' := 86) rfl ?_
          refine Go.astore C at_86 rfl (L' := #[.val (.int x0), .val (.int x1), .val (.int x2), .val (.int x3), .val (.int (x0 &&& (3 : Int32))), .val (.int (x3 &&& 255)), .val (.int (0 : Int32)), .unset, .unset, .val (.ref la), .val (.ref (T.2.2.1 1)), .unset, .unset, .unset, .unset]) rfl (pc' := 88) rfl ?_
          refine Go.goto C at_88 (by decide) (pc' := 100) (by decide) ?_
          refine Go.iloadN C at_100 rfl (pc' := 101) rfl ?_
          refine Go.ldcInt C at_101 (hw _ (List.mem_of_getElem? (i := 11) rfl)) (pc' := 103) rfl ?_
          refine Go.iand C at_103 (pc' := 104) rfl ?_
          refine Go.iconst C at_104 (v := 3) rfl (pc' := 105) rfl ?_
          refine Go.irem C at_105 (by decide) (pc' := 106) rfl ?_
          rcases own_rem3 x1 with ed | ed | ed
          · rw [ed]
            show Go p l e room_1 s m #[.int x0, .int x1, .int x2, .int x3] below meth c Z "com/example/llave/llave/policy/ObjectiveOfPinLaw" n0 _ (EnW s room_1 n0 Z consts_1 (fun v _ => v = some (.int 1))) _ _ _ 106 #[.val (.int x0), .val (.int x1), .val (.int x2), .val (.int x3), .val (.int (x0 &&& (3 : Int32))), .val (.int (x3 &&& 255)), .val (.int (0 : Int32)), .unset, .unset, .val (.ref la), .val (.ref (T.2.2.1 1)), .unset, .unset, .unset, .unset] [(.int (0 : Int32))]
            refine Go.iconst C at_106 (v := 1) rfl (pc' := 107) rfl ?_
            refine Go.isub C at_107 (pc' := 108) rfl ?_
            show Go p l e room_1 s m #[.int x0, .int x1, .int x2, .int x3] below meth c Z "com/example/llave/llave/policy/ObjectiveOfPinLaw" n0 _ (EnW s room_1 n0 Z consts_1 (fun v _ => v = some (.int 1))) _ _ _ 108 #[.val (.int x0), .val (.int x1), .val (.int x2), .val (.int x3), .val (.int (x0 &&& (3 : Int32))), .val (.int (x3 &&& 255)), .val (.int (0 : Int32)), .unset, .unset, .val (.ref la), .val (.ref (T.2.2.1 1)), .unset, .unset, .unset, .unset] [(.int (-1 : Int32))]
            refine Go.istore C at_108 (L' := #[.val (.int x0), .val (.int x1), .val (.int x2), .val (.int x3), .val (.int (x0 &&& (3 : Int32))), .val (.int (x3 &&& 255)), .val (.int (0 : Int32)), .unset, .unset, .val (.ref la), .val (.ref (T.2.2.1 1)), .val (.int (-1 : Int32)), .unset, .unset, .unset]) rfl (pc' := 110) rfl ?_
            refine Go.aload C at_110 rfl rfl (pc' := 112) rfl ?_
            refine Go.callV C at_112 (hw _ (List.mem_of_getElem? (i := 12) rfl)) (hw _ (List.mem_of_getElem? (i := 13) rfl)) (hw _ (List.mem_of_getElem? (i := 15) rfl)) (hw _ (List.mem_of_getElem? (i := 14) rfl)) (fun st hZ => notFace_of_selects (args := #[]) (mvT hZ (hw _ (List.mem_of_getElem? (i := 15) rfl)))) (by decide) S1.1 (argsL := []) (rest := []) rfl (lenOf pd___I rfl) rfl (W := 0) (Nat.le_of_ble_eq_true rfl) (own_lenP hw S1 (St.ext O1.2) hz (by decide) (by decide)) (fun _ _ _ q => q.2) (by decide) (by decide) (fun _ _ _ _ q b => by obtain ⟨⟨_, rfl⟩, _⟩ := q; exact b) (pc' := 115) rfl ?_
            rintro _ _ L1 ⟨⟨rfl, rfl⟩, -⟩
            show Go p l e room_1 s m #[.int x0, .int x1, .int x2, .int x3] below meth c Z "com/example/llave/llave/policy/ObjectiveOfPinLaw" n0 _ (EnW s room_1 n0 Z consts_1 (fun v _ => v = some (.int 1))) _ _ _ 115 #[.val (.int x0), .val (.int x1), .val (.int x2), .val (.int x3), .val (.int (x0 &&& (3 : Int32))), .val (.int (x3 &&& 255)), .val (.int (0 : Int32)), .unset, .unset, .val (.ref la), .val (.ref (T.2.2.1 1)), .val (.int (-1 : Int32)), .unset, .unset, .unset] [(.int (9 : Int32))]
            refine Go.iload C at_115 rfl (pc' := 117) rfl ?_
            refine Go.iadd C at_117 (pc' := 118) rfl ?_
            show Go p l e room_1 s m #[.int x0, .int x1, .int x2, .int x3] below meth c Z "com/example/llave/llave/policy/ObjectiveOfPinLaw" n0 _ (EnW s room_1 n0 Z consts_1 (fun v _ => v = some (.int 1))) _ _ _ 118 #[.val (.int x0), .val (.int x1), .val (.int x2), .val (.int x3), .val (.int (x0 &&& (3 : Int32))), .val (.int (x3 &&& 255)), .val (.int (0 : Int32)), .unset, .unset, .val (.ref la), .val (.ref (T.2.2.1 1)), .val (.int (-1 : Int32)), .unset, .unset, .unset] [(.int (8 : Int32))]
            refine Go.istore C at_118 (L' := #[.val (.int x0), .val (.int x1), .val (.int x2), .val (.int x3), .val (.int (x0 &&& (3 : Int32))), .val (.int (x3 &&& 255)), .val (.int (0 : Int32)), .unset, .unset, .val (.ref la), .val (.ref (T.2.2.1 1)), .val (.int (-1 : Int32)), .val (.int (8 : Int32)), .unset, .unset]) rfl (pc' := 120) rfl ?_
            refine Go.iloadN C at_120 rfl (pc' := 121) rfl ?_
            refine Go.ldcInt C at_121 (hw _ (List.mem_of_getElem? (i := 11) rfl)) (pc' := 123) rfl ?_
            refine Go.iand C at_123 (pc' := 124) rfl ?_
            refine Go.iload C at_124 rfl (pc' := 126) rfl ?_
            refine Go.irem C at_126 (by decide) (pc' := 127) rfl ?_
            obtain ⟨P, hP, eP⟩ := own_rem 8 (by decide) (by decide) x2 8 rfl
            rw [eP]
            show Go p l e room_1 s m #[.int x0, .int x1, .int x2, .int x3] below meth c Z "com/example/llave/llave/policy/ObjectiveOfPinLaw" n0 _ (EnW s room_1 n0 Z consts_1 (fun v _ => v = some (.int 1))) _ _ _ 127 #[.val (.int x0), .val (.int x1), .val (.int x2), .val (.int x3), .val (.int (x0 &&& (3 : Int32))), .val (.int (x3 &&& 255)), .val (.int (0 : Int32)), .unset, .unset, .val (.ref la), .val (.ref (T.2.2.1 1)), .val (.int (-1 : Int32)), .val (.int (8 : Int32)), .unset, .unset] [(.int (Int32.ofNat P))]
            refine Go.istore C at_127 (L' := #[.val (.int x0), .val (.int x1), .val (.int x2), .val (.int x3), .val (.int (x0 &&& (3 : Int32))), .val (.int (x3 &&& 255)), .val (.int (0 : Int32)), .unset, .unset, .val (.ref la), .val (.ref (T.2.2.1 1)), .val (.int (-1 : Int32)), .val (.int (8 : Int32)), .val (.int (Int32.ofNat P)), .unset]) rfl (pc' := 129) rfl ?_
            refine Go.iload C at_129 rfl (pc' := 131) rfl ?_
            refine Go.if_eq_t C at_131 (by decide) (by decide) (pc' := 174) (by decide) ?_
            refine Go.aload C at_174 rfl rfl (pc' := 176) rfl ?_
            refine Go.iload C at_176 rfl (pc' := 178) rfl ?_
            refine Go.iload C at_178 rfl (pc' := 180) rfl ?_
            show Go p l e room_1 s m #[.int x0, .int x1, .int x2, .int x3] below meth c Z "com/example/llave/llave/policy/ObjectiveOfPinLaw" n0 _ (EnW s room_1 n0 Z consts_1 (fun v _ => v = some (.int 1))) h1 _ _ 180 #[.val (.int x0), .val (.int x1), .val (.int x2), .val (.int x3), .val (.int (x0 &&& (3 : Int32))), .val (.int (x3 &&& 255)), .val (.int (0 : Int32)), .unset, .unset, .val (.ref la), .val (.ref (T.2.2.1 1)), .val (.int (-1 : Int32)), .val (.int (8 : Int32)), .val (.int (Int32.ofNat P)), .unset] [(.int (x3 &&& 255)), (.int (Int32.ofNat 8)), (.ref la)]
            refine Go.callS C at_180 (hw _ (List.mem_of_getElem? (i := 25) rfl)) (hw _ (List.mem_of_getElem? (i := 26) rfl)) (hw _ (List.mem_of_getElem? (i := 27) rfl)) (hw _ (List.mem_of_getElem? (i := 28) rfl)) (by decide) (argsL := [(.ref la), (.int (Int32.ofNat 8)), (.int (x3 &&& 255))]) (rest := []) rfl (lenOf pd__Ljava_lang_String_IC_Ljava_lang_String_ rfl) rfl (W := 0) (Nat.le_of_ble_eq_true rfl) (Ct.pay (rm_make l Z a0 hw la lb lk (own_W 1) 8 x3 z fm h1 n0 Z1 S1 (by decide) (by decide) (by decide) St hz Fm rf O1) (hw _ (List.mem_of_getElem? (i := 28) rfl)) (hw _ (List.mem_of_getElem? (i := 27) rfl)) (by decide) (by decide)) (fun _ _ _ q => q.2) (by decide) (by decide) (fun _ _ _ _ q b => by obtain ⟨⟨_, _, _, _, K, _⟩, _⟩ := q; exact Bw.keep K (by simp) b) (pc' := 183) rfl ?_
            rintro _ h2 L2 ⟨⟨sa, ta, ks, rfl, K2, S2⟩, -⟩
            show Go p l e room_1 s m #[.int x0, .int x1, .int x2, .int x3] below meth c Z "com/example/llave/llave/policy/ObjectiveOfPinLaw" n0 _ (EnW s room_1 n0 Z consts_1 (fun v _ => v = some (.int 1))) _ _ _ 183 #[.val (.int x0), .val (.int x1), .val (.int x2), .val (.int x3), .val (.int (x0 &&& (3 : Int32))), .val (.int (x3 &&& 255)), .val (.int (0 : Int32)), .unset, .unset, .val (.ref la), .val (.ref (T.2.2.1 1)), .val (.int (-1 : Int32)), .val (.int (8 : Int32)), .val (.int (Int32.ofNat P)), .unset] [(.ref sa)]
            have O2 := O1.keep K2 all0
            have Z2 := Nat.le_trans Z1 K2.1
            have S1' := S1.keep K2 nin0 nin0
            refine Go.astore C at_183 rfl (L' := #[.val (.int x0), .val (.int x1), .val (.int x2), .val (.int x3), .val (.int (x0 &&& (3 : Int32))), .val (.int (x3 &&& 255)), .val (.int (0 : Int32)), .val (.ref sa), .unset, .val (.ref la), .val (.ref (T.2.2.1 1)), .val (.int (-1 : Int32)), .val (.int (8 : Int32)), .val (.int (Int32.ofNat P)), .unset]) rfl (pc' := 185) rfl ?_
            refine Go.iload C at_185 rfl (pc' := 187) rfl ?_
            refine Go.if_ne_t C at_187 (by decide) (by decide) (pc' := 194) (by decide) ?_
            refine Go.iconst C at_194 (v := 0) rfl (pc' := 195) rfl ?_
            refine Go.istore C at_195 (L' := #[.val (.int x0), .val (.int x1), .val (.int x2), .val (.int x3), .val (.int (x0 &&& (3 : Int32))), .val (.int (x3 &&& 255)), .val (.int (0 : Int32)), .val (.ref sa), .unset, .val (.ref la), .val (.ref (T.2.2.1 1)), .val (.int (-1 : Int32)), .val (.int (8 : Int32)), .val (.int (Int32.ofNat P)), .val (.int (0 : Int32))]) rfl (pc' := 197) rfl ?_
            refine Go.iload C at_197 rfl (pc' := 199) rfl ?_
            refine Go.if_eq_t C at_199 (by decide) (by decide) (pc' := 207) (by decide) ?_
            refine Go.aconstNull C at_207 (pc' := 208) rfl ?_
            refine Go.astore C at_208 rfl (L' := #[.val (.int x0), .val (.int x1), .val (.int x2), .val (.int x3), .val (.int (x0 &&& (3 : Int32))), .val (.int (x3 &&& 255)), .val (.int (0 : Int32)), .val (.ref sa), .val .null, .val (.ref la), .val (.ref (T.2.2.1 1)), .val (.int (-1 : Int32)), .val (.int (8 : Int32)), .val (.int (Int32.ofNat P)), .val (.int (0 : Int32))]) rfl (pc' := 210) rfl ?_
            refine Go.aload C at_210 rfl rfl (pc' := 212) rfl ?_
            refine Go.callS C at_212 (hw _ (List.mem_of_getElem? (i := 76) rfl)) (hw _ (List.mem_of_getElem? (i := 77) rfl)) (hw _ (List.mem_of_getElem? (i := 9) rfl)) (hw _ (List.mem_of_getElem? (i := 78) rfl)) (by decide) (argsL := [(.ref sa)]) (rest := []) rfl (lenOf pd__Ljava_lang_String__Ljava_util_Optional_ rfl) rfl (W := 0) (Nat.le_of_ble_eq_true rfl) (Ct.pay (rm_ofs l Z a0 hw sa ta ks (own_fill (own_W 1) (x3 &&& 255) 8 16) T z h2 n0 Z2 O2 GT St hz S2) (hw _ (List.mem_of_getElem? (i := 78) rfl)) (hw _ (List.mem_of_getElem? (i := 9) rfl)) (by decide) (by decide)) (fun _ _ _ q => q.2) (by decide) (by decide) (fun _ _ _ _ q b => by obtain ⟨⟨_, _, K, _⟩, _⟩ := q; exact Bw.keep K (by simp) b) (pc' := 215) rfl ?_
            rintro _ h9 L9 ⟨⟨f9, rfl, K9, A9, F9⟩, -⟩
            show Go p l e room_1 s m #[.int x0, .int x1, .int x2, .int x3] below meth c Z "com/example/llave/llave/policy/ObjectiveOfPinLaw" n0 _ (EnW s room_1 n0 Z consts_1 (fun v _ => v = some (.int 1))) _ _ _ 215 #[.val (.int x0), .val (.int x1), .val (.int x2), .val (.int x3), .val (.int (x0 &&& (3 : Int32))), .val (.int (x3 &&& 255)), .val (.int (0 : Int32)), .val (.ref sa), .val .null, .val (.ref la), .val (.ref (T.2.2.1 1)), .val (.int (-1 : Int32)), .val (.int (8 : Int32)), .val (.int (Int32.ofNat P)), .val (.int (0 : Int32))] [(.ref f9)]
            rw [own_none T.2.2.1 (own_fill (own_W 1) (x3 &&& 255) 8 16) (by simp [own_len])] at F9
            refine Go.aconstNull C at_215 (pc' := 216) rfl ?_
            refine Go.callV C at_216 (hw _ (List.mem_of_getElem? (i := 112) rfl)) (hw _ (List.mem_of_getElem? (i := 113) rfl)) (hw _ (List.mem_of_getElem? (i := 115) rfl)) (hw _ (List.mem_of_getElem? (i := 114) rfl)) (fun st hZ => notFace_of_selects (args := #[]) (mvT hZ (hw _ (List.mem_of_getElem? (i := 115) rfl)))) (by decide) A9 (argsL := [.null]) (rest := []) rfl (lenOf pd__Ljava_lang_Object__Ljava_lang_Object_ rfl) rfl (W := 0) (Nat.le_of_ble_eq_true rfl) (Ct.pay (rm_els l Z a0 hw f9 .null h9 n0 F9 (Or.inl rfl)) (hw _ (List.mem_of_getElem? (i := 116) rfl)) (hw _ (List.mem_of_getElem? (i := 81) rfl)) (by decide) (by decide)) (fun _ _ _ q => q.2) (by decide) (by decide) (fun _ _ _ _ q b => by obtain ⟨⟨_, rfl⟩, _⟩ := q; exact b) (pc' := 219) rfl ?_
            rintro _ _ L10 ⟨⟨rfl, rfl⟩, -⟩
            show Go p l e room_1 s m #[.int x0, .int x1, .int x2, .int x3] below meth c Z "com/example/llave/llave/policy/ObjectiveOfPinLaw" n0 _ (EnW s room_1 n0 Z consts_1 (fun v _ => v = some (.int 1))) _ _ _ 219 #[.val (.int x0), .val (.int x1), .val (.int x2), .val (.int x3), .val (.int (x0 &&& (3 : Int32))), .val (.int (x3 &&& 255)), .val (.int (0 : Int32)), .val (.ref sa), .val .null, .val (.ref la), .val (.ref (T.2.2.1 1)), .val (.int (-1 : Int32)), .val (.int (8 : Int32)), .val (.int (Int32.ofNat P)), .val (.int (0 : Int32))] [.null]
            refine Go.castNull C at_219 (pc' := 222) rfl ?_
            refine Go.astore C at_222 rfl (L' := #[.val (.int x0), .val (.int x1), .val (.int x2), .val (.int x3), .val (.int (x0 &&& (3 : Int32))), .val (.int (x3 &&& 255)), .val (.int (0 : Int32)), .val (.ref sa), .val .null, .val .null, .val (.ref (T.2.2.1 1)), .val (.int (-1 : Int32)), .val (.int (8 : Int32)), .val (.int (Int32.ofNat P)), .val (.int (0 : Int32))]) rfl (pc' := 224) rfl ?_
            refine Go.aload C at_224 rfl rfl (pc' := 226) rfl ?_
            refine Go.aload C at_226 rfl rfl (pc' := 228) rfl ?_
            refine Go.acmp_ne_f C at_228 rfl rfl rfl (by decide) (pc' := 231) rfl ?_
            refine Go.iconst C at_231 (v := 1) rfl (pc' := 232) rfl ?_
            refine Go.goto C at_232 (by decide) (pc' := 236) (by decide) ?_
            refine Go.retNW C hEL (by simp) at_236 (by decide) (by decide) ?_
            exact rfl
          · rw [ed]
            show Go p l e room_1 s m #[.int x0, .int x1, .int x2, .int x3] below meth c Z "com/example/llave/llave/policy/ObjectiveOfPinLaw" n0 _ (EnW s room_1 n0 Z consts_1 (fun v _ => v = some (.int 1))) _ _ _ 106 #[.val (.int x0), .val (.int x1), .val (.int x2), .val (.int x3), .val (.int (x0 &&& (3 : Int32))), .val (.int (x3 &&& 255)), .val (.int (0 : Int32)), .unset, .unset, .val (.ref la), .val (.ref (T.2.2.1 1)), .unset, .unset, .unset, .unset] [(.int (1 : Int32))]
            refine Go.iconst C at_106 (v := 1) rfl (pc' := 107) rfl ?_
            refine Go.isub C at_107 (pc' := 108) rfl ?_
            show Go p l e room_1 s m #[.int x0, .int x1, .int x2, .int x3] below meth c Z "com/example/llave/llave/policy/ObjectiveOfPinLaw" n0 _ (EnW s room_1 n0 Z consts_1 (fun v _ => v = some (.int 1))) _ _ _ 108 #[.val (.int x0), .val (.int x1), .val (.int x2), .val (.int x3), .val (.int (x0 &&& (3 : Int32))), .val (.int (x3 &&& 255)), .val (.int (0 : Int32)), .unset, .unset, .val (.ref la), .val (.ref (T.2.2.1 1)), .unset, .unset, .unset, .unset] [(.int (0 : Int32))]
            refine Go.istore C at_108 (L' := #[.val (.int x0), .val (.int x1), .val (.int x2), .val (.int x3), .val (.int (x0 &&& (3 : Int32))), .val (.int (x3 &&& 255)), .val (.int (0 : Int32)), .unset, .unset, .val (.ref la), .val (.ref (T.2.2.1 1)), .val (.int (0 : Int32)), .unset, .unset, .unset]) rfl (pc' := 110) rfl ?_
            refine Go.aload C at_110 rfl rfl (pc' := 112) rfl ?_
            refine Go.callV C at_112 (hw _ (List.mem_of_getElem? (i := 12) rfl)) (hw _ (List.mem_of_getElem? (i := 13) rfl)) (hw _ (List.mem_of_getElem? (i := 15) rfl)) (hw _ (List.mem_of_getElem? (i := 14) rfl)) (fun st hZ => notFace_of_selects (args := #[]) (mvT hZ (hw _ (List.mem_of_getElem? (i := 15) rfl)))) (by decide) S1.1 (argsL := []) (rest := []) rfl (lenOf pd___I rfl) rfl (W := 0) (Nat.le_of_ble_eq_true rfl) (own_lenP hw S1 (St.ext O1.2) hz (by decide) (by decide)) (fun _ _ _ q => q.2) (by decide) (by decide) (fun _ _ _ _ q b => by obtain ⟨⟨_, rfl⟩, _⟩ := q; exact b) (pc' := 115) rfl ?_
            rintro _ _ L1 ⟨⟨rfl, rfl⟩, -⟩
            show Go p l e room_1 s m #[.int x0, .int x1, .int x2, .int x3] below meth c Z "com/example/llave/llave/policy/ObjectiveOfPinLaw" n0 _ (EnW s room_1 n0 Z consts_1 (fun v _ => v = some (.int 1))) _ _ _ 115 #[.val (.int x0), .val (.int x1), .val (.int x2), .val (.int x3), .val (.int (x0 &&& (3 : Int32))), .val (.int (x3 &&& 255)), .val (.int (0 : Int32)), .unset, .unset, .val (.ref la), .val (.ref (T.2.2.1 1)), .val (.int (0 : Int32)), .unset, .unset, .unset] [(.int (9 : Int32))]
            refine Go.iload C at_115 rfl (pc' := 117) rfl ?_
            refine Go.iadd C at_117 (pc' := 118) rfl ?_
            show Go p l e room_1 s m #[.int x0, .int x1, .int x2, .int x3] below meth c Z "com/example/llave/llave/policy/ObjectiveOfPinLaw" n0 _ (EnW s room_1 n0 Z consts_1 (fun v _ => v = some (.int 1))) _ _ _ 118 #[.val (.int x0), .val (.int x1), .val (.int x2), .val (.int x3), .val (.int (x0 &&& (3 : Int32))), .val (.int (x3 &&& 255)), .val (.int (0 : Int32)), .unset, .unset, .val (.ref la), .val (.ref (T.2.2.1 1)), .val (.int (0 : Int32)), .unset, .unset, .unset] [(.int (9 : Int32))]
            refine Go.istore C at_118 (L' := #[.val (.int x0), .val (.int x1), .val (.int x2), .val (.int x3), .val (.int (x0 &&& (3 : Int32))), .val (.int (x3 &&& 255)), .val (.int (0 : Int32)), .unset, .unset, .val (.ref la), .val (.ref (T.2.2.1 1)), .val (.int (0 : Int32)), .val (.int (9 : Int32)), .unset, .unset]) rfl (pc' := 120) rfl ?_
            refine Go.iloadN C at_120 rfl (pc' := 121) rfl ?_
            refine Go.ldcInt C at_121 (hw _ (List.mem_of_getElem? (i := 11) rfl)) (pc' := 123) rfl ?_
            refine Go.iand C at_123 (pc' := 124) rfl ?_
            refine Go.iload C at_124 rfl (pc' := 126) rfl ?_
            refine Go.irem C at_126 (by decide) (pc' := 127) rfl ?_
            obtain ⟨P, hP, eP⟩ := own_rem 9 (by decide) (by decide) x2 9 rfl
            rw [eP]
            show Go p l e room_1 s m #[.int x0, .int x1, .int x2, .int x3] below meth c Z "com/example/llave/llave/policy/ObjectiveOfPinLaw" n0 _ (EnW s room_1 n0 Z consts_1 (fun v _ => v = some (.int 1))) _ _ _ 127 #[.val (.int x0), .val (.int x1), .val (.int x2), .val (.int x3), .val (.int (x0 &&& (3 : Int32))), .val (.int (x3 &&& 255)), .val (.int (0 : Int32)), .unset, .unset, .val (.ref la), .val (.ref (T.2.2.1 1)), .val (.int (0 : Int32)), .val (.int (9 : Int32)), .unset, .unset] [(.int (Int32.ofNat P))]
            refine Go.istore C at_127 (L' := #[.val (.int x0), .val (.int x1), .val (.int x2), .val (.int x3), .val (.int (x0 &&& (3 : Int32))), .val (.int (x3 &&& 255)), .val (.int (0 : Int32)), .unset, .unset, .val (.ref la), .val (.ref (T.2.2.1 1)), .val (.int (0 : Int32)), .val (.int (9 : Int32)), .val (.int (Int32.ofNat P)), .unset]) rfl (pc' := 129) rfl ?_
            refine Go.iload C at_129 rfl (pc' := 131) rfl ?_
            refine Go.if_eq_t C at_131 (by decide) (by decide) (pc' := 174) (by decide) ?_
            refine Go.aload C at_174 rfl rfl (pc' := 176) rfl ?_
            refine Go.iload C at_176 rfl (pc' := 178) rfl ?_
            refine Go.iload C at_178 rfl (pc' := 180) rfl ?_
            show Go p l e room_1 s m #[.int x0, .int x1, .int x2, .int x3] below meth c Z "com/example/llave/llave/policy/ObjectiveOfPinLaw" n0 _ (EnW s room_1 n0 Z consts_1 (fun v _ => v = some (.int 1))) h1 _ _ 180 #[.val (.int x0), .val (.int x1), .val (.int x2), .val (.int x3), .val (.int (x0 &&& (3 : Int32))), .val (.int (x3 &&& 255)), .val (.int (0 : Int32)), .unset, .unset, .val (.ref la), .val (.ref (T.2.2.1 1)), .val (.int (0 : Int32)), .val (.int (9 : Int32)), .val (.int (Int32.ofNat P)), .unset] [(.int (x3 &&& 255)), (.int (Int32.ofNat 9)), (.ref la)]
            refine Go.callS C at_180 (hw _ (List.mem_of_getElem? (i := 25) rfl)) (hw _ (List.mem_of_getElem? (i := 26) rfl)) (hw _ (List.mem_of_getElem? (i := 27) rfl)) (hw _ (List.mem_of_getElem? (i := 28) rfl)) (by decide) (argsL := [(.ref la), (.int (Int32.ofNat 9)), (.int (x3 &&& 255))]) (rest := []) rfl (lenOf pd__Ljava_lang_String_IC_Ljava_lang_String_ rfl) rfl (W := 0) (Nat.le_of_ble_eq_true rfl) (Ct.pay (rm_make l Z a0 hw la lb lk (own_W 1) 9 x3 z fm h1 n0 Z1 S1 (by decide) (by decide) (by decide) St hz Fm rf O1) (hw _ (List.mem_of_getElem? (i := 28) rfl)) (hw _ (List.mem_of_getElem? (i := 27) rfl)) (by decide) (by decide)) (fun _ _ _ q => q.2) (by decide) (by decide) (fun _ _ _ _ q b => by obtain ⟨⟨_, _, _, _, K, _⟩, _⟩ := q; exact Bw.keep K (by simp) b) (pc' := 183) rfl ?_
            rintro _ h2 L2 ⟨⟨sa, ta, ks, rfl, K2, S2⟩, -⟩
            show Go p l e room_1 s m #[.int x0, .int x1, .int x2, .int x3] below meth c Z "com/example/llave/llave/policy/ObjectiveOfPinLaw" n0 _ (EnW s room_1 n0 Z consts_1 (fun v _ => v = some (.int 1))) _ _ _ 183 #[.val (.int x0), .val (.int x1), .val (.int x2), .val (.int x3), .val (.int (x0 &&& (3 : Int32))), .val (.int (x3 &&& 255)), .val (.int (0 : Int32)), .unset, .unset, .val (.ref la), .val (.ref (T.2.2.1 1)), .val (.int (0 : Int32)), .val (.int (9 : Int32)), .val (.int (Int32.ofNat P)), .unset] [(.ref sa)]
            have O2 := O1.keep K2 all0
            have Z2 := Nat.le_trans Z1 K2.1
            have S1' := S1.keep K2 nin0 nin0
            refine Go.astore C at_183 rfl (L' := #[.val (.int x0), .val (.int x1), .val (.int x2), .val (.int x3), .val (.int (x0 &&& (3 : Int32))), .val (.int (x3 &&& 255)), .val (.int (0 : Int32)), .val (.ref sa), .unset, .val (.ref la), .val (.ref (T.2.2.1 1)), .val (.int (0 : Int32)), .val (.int (9 : Int32)), .val (.int (Int32.ofNat P)), .unset]) rfl (pc' := 185) rfl ?_
            refine Go.iload C at_185 rfl (pc' := 187) rfl ?_
            refine Go.if_ne_f C at_187 (by decide) (pc' := 190) rfl ?_
            refine Go.iconst C at_190 (v := 1) rfl (pc' := 191) rfl ?_
            refine Go.goto C at_191 (by decide) (pc' := 195) (by decide) ?_
            refine Go.istore C at_195 (L' := #[.val (.int x0), .val (.int x1), .val (.int x2), .val (.int x3), .val (.int (x0 &&& (3 : Int32))), .val (.int (x3 &&& 255)), .val (.int (0 : Int32)), .val (.ref sa), .unset, .val (.ref la), .val (.ref (T.2.2.1 1)), .val (.int (0 : Int32)), .val (.int (9 : Int32)), .val (.int (Int32.ofNat P)), .val (.int (1 : Int32))]) rfl (pc' := 197) rfl ?_
            refine Go.iload C at_197 rfl (pc' := 199) rfl ?_
            refine Go.if_eq_f C at_199 (by decide) (pc' := 202) rfl ?_
            refine Go.aload C at_202 rfl rfl (pc' := 204) rfl ?_
            refine Go.goto C at_204 (by decide) (pc' := 208) (by decide) ?_
            refine Go.astore C at_208 rfl (L' := #[.val (.int x0), .val (.int x1), .val (.int x2), .val (.int x3), .val (.int (x0 &&& (3 : Int32))), .val (.int (x3 &&& 255)), .val (.int (0 : Int32)), .val (.ref sa), .val (.ref (T.2.2.1 1)), .val (.ref la), .val (.ref (T.2.2.1 1)), .val (.int (0 : Int32)), .val (.int (9 : Int32)), .val (.int (Int32.ofNat P)), .val (.int (1 : Int32))]) rfl (pc' := 210) rfl ?_
            refine Go.aload C at_210 rfl rfl (pc' := 212) rfl ?_
            refine Go.callS C at_212 (hw _ (List.mem_of_getElem? (i := 76) rfl)) (hw _ (List.mem_of_getElem? (i := 77) rfl)) (hw _ (List.mem_of_getElem? (i := 9) rfl)) (hw _ (List.mem_of_getElem? (i := 78) rfl)) (by decide) (argsL := [(.ref sa)]) (rest := []) rfl (lenOf pd__Ljava_lang_String__Ljava_util_Optional_ rfl) rfl (W := 0) (Nat.le_of_ble_eq_true rfl) (Ct.pay (rm_ofs l Z a0 hw sa ta ks (own_fill (own_W 1) (x3 &&& 255) 9 16) T z h2 n0 Z2 O2 GT St hz S2) (hw _ (List.mem_of_getElem? (i := 78) rfl)) (hw _ (List.mem_of_getElem? (i := 9) rfl)) (by decide) (by decide)) (fun _ _ _ q => q.2) (by decide) (by decide) (fun _ _ _ _ q b => by obtain ⟨⟨_, _, K, _⟩, _⟩ := q; exact Bw.keep K (by simp) b) (pc' := 215) rfl ?_
            rintro _ h9 L9 ⟨⟨f9, rfl, K9, A9, F9⟩, -⟩
            show Go p l e room_1 s m #[.int x0, .int x1, .int x2, .int x3] below meth c Z "com/example/llave/llave/policy/ObjectiveOfPinLaw" n0 _ (EnW s room_1 n0 Z consts_1 (fun v _ => v = some (.int 1))) _ _ _ 215 #[.val (.int x0), .val (.int x1), .val (.int x2), .val (.int x3), .val (.int (x0 &&& (3 : Int32))), .val (.int (x3 &&& 255)), .val (.int (0 : Int32)), .val (.ref sa), .val (.ref (T.2.2.1 1)), .val (.ref la), .val (.ref (T.2.2.1 1)), .val (.int (0 : Int32)), .val (.int (9 : Int32)), .val (.int (Int32.ofNat P)), .val (.int (1 : Int32))] [(.ref f9)]
            rw [own_same1] at F9
            refine Go.aconstNull C at_215 (pc' := 216) rfl ?_
            refine Go.callV C at_216 (hw _ (List.mem_of_getElem? (i := 112) rfl)) (hw _ (List.mem_of_getElem? (i := 113) rfl)) (hw _ (List.mem_of_getElem? (i := 115) rfl)) (hw _ (List.mem_of_getElem? (i := 114) rfl)) (fun st hZ => notFace_of_selects (args := #[]) (mvT hZ (hw _ (List.mem_of_getElem? (i := 115) rfl)))) (by decide) A9 (argsL := [.null]) (rest := []) rfl (lenOf pd__Ljava_lang_Object__Ljava_lang_Object_ rfl) rfl (W := 0) (Nat.le_of_ble_eq_true rfl) (Ct.pay (rm_els l Z a0 hw f9 (.ref (T.2.2.1 1)) h9 n0 F9 (Or.inr ⟨_, rfl⟩)) (hw _ (List.mem_of_getElem? (i := 116) rfl)) (hw _ (List.mem_of_getElem? (i := 81) rfl)) (by decide) (by decide)) (fun _ _ _ q => q.2) (by decide) (by decide) (fun _ _ _ _ q b => by obtain ⟨⟨_, rfl⟩, _⟩ := q; exact b) (pc' := 219) rfl ?_
            rintro _ _ L10 ⟨⟨rfl, rfl⟩, -⟩
            show Go p l e room_1 s m #[.int x0, .int x1, .int x2, .int x3] below meth c Z "com/example/llave/llave/policy/ObjectiveOfPinLaw" n0 _ (EnW s room_1 n0 Z consts_1 (fun v _ => v = some (.int 1))) _ _ _ 219 #[.val (.int x0), .val (.int x1), .val (.int x2), .val (.int x3), .val (.int (x0 &&& (3 : Int32))), .val (.int (x3 &&& 255)), .val (.int (0 : Int32)), .val (.ref sa), .val (.ref (T.2.2.1 1)), .val (.ref la), .val (.ref (T.2.2.1 1)), .val (.int (0 : Int32)), .val (.int (9 : Int32)), .val (.int (Int32.ofNat P)), .val (.int (1 : Int32))] [(.ref (T.2.2.1 1))]
            refine Go.castY C at_219 (hw _ (List.mem_of_getElem? (i := 141) rfl)) (Ins.self (((Gj 1).1.ext O2.2).keep K9)) (pc' := 222) rfl ?_
            refine Go.astore C at_222 rfl (L' := #[.val (.int x0), .val (.int x1), .val (.int x2), .val (.int x3), .val (.int (x0 &&& (3 : Int32))), .val (.int (x3 &&& 255)), .val (.int (0 : Int32)), .val (.ref sa), .val (.ref (T.2.2.1 1)), .val (.ref (T.2.2.1 1)), .val (.ref (T.2.2.1 1)), .val (.int (0 : Int32)), .val (.int (9 : Int32)), .val (.int (Int32.ofNat P)), .val (.int (1 : Int32))]) rfl (pc' := 224) rfl ?_
            refine Go.aload C at_224 rfl rfl (pc' := 226) rfl ?_
            refine Go.aload C at_226 rfl rfl (pc' := 228) rfl ?_
            refine Go.acmp_ne_f C at_228 rfl rfl rfl (by decide) (pc' := 231) rfl ?_
            refine Go.iconst C at_231 (v := 1) rfl (pc' := 232) rfl ?_
            refine Go.goto C at_232 (by decide) (pc' := 236) (by decide) ?_
            refine Go.retNW C hEL (by simp) at_236 (by decide) (by decide) ?_
            exact rfl
          · rw [ed]
            show Go p l e room_1 s m #[.int x0, .int x1, .int x2, .int x3] below meth c Z "com/example/llave/llave/policy/ObjectiveOfPinLaw" n0 _ (EnW s room_1 n0 Z consts_1 (fun v _ => v = some (.int 1))) _ _ _ 106 #[.val (.int x0), .val (.int x1), .val (.int x2), .val (.int x3), .val (.int (x0 &&& (3 : Int32))), .val (.int (x3 &&& 255)), .val (.int (0 : Int32)), .unset, .unset, .val (.ref la), .val (.ref (T.2.2.1 1)), .unset, .unset, .unset, .unset] [(.int (2 : Int32))]
            refine Go.iconst C at_106 (v := 1) rfl (pc' := 107) rfl ?_
            refine Go.isub C at_107 (pc' := 108) rfl ?_
            show Go p l e room_1 s m #[.int x0, .int x1, .int x2, .int x3] below meth c Z "com/example/llave/llave/policy/ObjectiveOfPinLaw" n0 _ (EnW s room_1 n0 Z consts_1 (fun v _ => v = some (.int 1))) _ _ _ 108 #[.val (.int x0), .val (.int x1), .val (.int x2), .val (.int x3), .val (.int (x0 &&& (3 : Int32))), .val (.int (x3 &&& 255)), .val (.int (0 : Int32)), .unset, .unset, .val (.ref la), .val (.ref (T.2.2.1 1)), .unset, .unset, .unset, .unset] [(.int (1 : Int32))]
            refine Go.istore C at_108 (L' := #[.val (.int x0), .val (.int x1), .val (.int x2), .val (.int x3), .val (.int (x0 &&& (3 : Int32))), .val (.int (x3 &&& 255)), .val (.int (0 : Int32)), .unset, .unset, .val (.ref la), .val (.ref (T.2.2.1 1)), .val (.int (1 : Int32)), .unset, .unset, .unset]) rfl (pc' := 110) rfl ?_
            refine Go.aload C at_110 rfl rfl (pc' := 112) rfl ?_
            refine Go.callV C at_112 (hw _ (List.mem_of_getElem? (i := 12) rfl)) (hw _ (List.mem_of_getElem? (i := 13) rfl)) (hw _ (List.mem_of_getElem? (i := 15) rfl)) (hw _ (List.mem_of_getElem? (i := 14) rfl)) (fun st hZ => notFace_of_selects (args := #[]) (mvT hZ (hw _ (List.mem_of_getElem? (i := 15) rfl)))) (by decide) S1.1 (argsL := []) (rest := []) rfl (lenOf pd___I rfl) rfl (W := 0) (Nat.le_of_ble_eq_true rfl) (own_lenP hw S1 (St.ext O1.2) hz (by decide) (by decide)) (fun _ _ _ q => q.2) (by decide) (by decide) (fun _ _ _ _ q b => by obtain ⟨⟨_, rfl⟩, _⟩ := q; exact b) (pc' := 115) rfl ?_
            rintro _ _ L1 ⟨⟨rfl, rfl⟩, -⟩
            show Go p l e room_1 s m #[.int x0, .int x1, .int x2, .int x3] below meth c Z "com/example/llave/llave/policy/ObjectiveOfPinLaw" n0 _ (EnW s room_1 n0 Z consts_1 (fun v _ => v = some (.int 1))) _ _ _ 115 #[.val (.int x0), .val (.int x1), .val (.int x2), .val (.int x3), .val (.int (x0 &&& (3 : Int32))), .val (.int (x3 &&& 255)), .val (.int (0 : Int32)), .unset, .unset, .val (.ref la), .val (.ref (T.2.2.1 1)), .val (.int (1 : Int32)), .unset, .unset, .unset] [(.int (9 : Int32))]
            refine Go.iload C at_115 rfl (pc' := 117) rfl ?_
            refine Go.iadd C at_117 (pc' := 118) rfl ?_
            show Go p l e room_1 s m #[.int x0, .int x1, .int x2, .int x3] below meth c Z "com/example/llave/llave/policy/ObjectiveOfPinLaw" n0 _ (EnW s room_1 n0 Z consts_1 (fun v _ => v = some (.int 1))) _ _ _ 118 #[.val (.int x0), .val (.int x1), .val (.int x2), .val (.int x3), .val (.int (x0 &&& (3 : Int32))), .val (.int (x3 &&& 255)), .val (.int (0 : Int32)), .unset, .unset, .val (.ref la), .val (.ref (T.2.2.1 1)), .val (.int (1 : Int32)), .unset, .unset, .unset] [(.int (10 : Int32))]
            refine Go.istore C at_118 (L' := #[.val (.int x0), .val (.int x1), .val (.int x2), .val (.int x3), .val (.int (x0 &&& (3 : Int32))), .val (.int (x3 &&& 255)), .val (.int (0 : Int32)), .unset, .unset, .val (.ref la), .val (.ref (T.2.2.1 1)), .val (.int (1 : Int32)), .val (.int (10 : Int32)), .unset, .unset]) rfl (pc' := 120) rfl ?_
            refine Go.iloadN C at_120 rfl (pc' := 121) rfl ?_
            refine Go.ldcInt C at_121 (hw _ (List.mem_of_getElem? (i := 11) rfl)) (pc' := 123) rfl ?_
            refine Go.iand C at_123 (pc' := 124) rfl ?_
            refine Go.iload C at_124 rfl (pc' := 126) rfl ?_
            refine Go.irem C at_126 (by decide) (pc' := 127) rfl ?_
            obtain ⟨P, hP, eP⟩ := own_rem 10 (by decide) (by decide) x2 10 rfl
            rw [eP]
            show Go p l e room_1 s m #[.int x0, .int x1, .int x2, .int x3] below meth c Z "com/example/llave/llave/policy/ObjectiveOfPinLaw" n0 _ (EnW s room_1 n0 Z consts_1 (fun v _ => v = some (.int 1))) _ _ _ 127 #[.val (.int x0), .val (.int x1), .val (.int x2), .val (.int x3), .val (.int (x0 &&& (3 : Int32))), .val (.int (x3 &&& 255)), .val (.int (0 : Int32)), .unset, .unset, .val (.ref la), .val (.ref (T.2.2.1 1)), .val (.int (1 : Int32)), .val (.int (10 : Int32)), .unset, .unset] [(.int (Int32.ofNat P))]
            refine Go.istore C at_127 (L' := #[.val (.int x0), .val (.int x1), .val (.int x2), .val (.int x3), .val (.int (x0 &&& (3 : Int32))), .val (.int (x3 &&& 255)), .val (.int (0 : Int32)), .unset, .unset, .val (.ref la), .val (.ref (T.2.2.1 1)), .val (.int (1 : Int32)), .val (.int (10 : Int32)), .val (.int (Int32.ofNat P)), .unset]) rfl (pc' := 129) rfl ?_
            refine Go.iload C at_129 rfl (pc' := 131) rfl ?_
            refine Go.if_eq_t C at_131 (by decide) (by decide) (pc' := 174) (by decide) ?_
            refine Go.aload C at_174 rfl rfl (pc' := 176) rfl ?_
            refine Go.iload C at_176 rfl (pc' := 178) rfl ?_
            refine Go.iload C at_178 rfl (pc' := 180) rfl ?_
            show Go p l e room_1 s m #[.int x0, .int x1, .int x2, .int x3] below meth c Z "com/example/llave/llave/policy/ObjectiveOfPinLaw" n0 _ (EnW s room_1 n0 Z consts_1 (fun v _ => v = some (.int 1))) h1 _ _ 180 #[.val (.int x0), .val (.int x1), .val (.int x2), .val (.int x3), .val (.int (x0 &&& (3 : Int32))), .val (.int (x3 &&& 255)), .val (.int (0 : Int32)), .unset, .unset, .val (.ref la), .val (.ref (T.2.2.1 1)), .val (.int (1 : Int32)), .val (.int (10 : Int32)), .val (.int (Int32.ofNat P)), .unset] [(.int (x3 &&& 255)), (.int (Int32.ofNat 10)), (.ref la)]
            refine Go.callS C at_180 (hw _ (List.mem_of_getElem? (i := 25) rfl)) (hw _ (List.mem_of_getElem? (i := 26) rfl)) (hw _ (List.mem_of_getElem? (i := 27) rfl)) (hw _ (List.mem_of_getElem? (i := 28) rfl)) (by decide) (argsL := [(.ref la), (.int (Int32.ofNat 10)), (.int (x3 &&& 255))]) (rest := []) rfl (lenOf pd__Ljava_lang_String_IC_Ljava_lang_String_ rfl) rfl (W := 0) (Nat.le_of_ble_eq_true rfl) (Ct.pay (rm_make l Z a0 hw la lb lk (own_W 1) 10 x3 z fm h1 n0 Z1 S1 (by decide) (by decide) (by decide) St hz Fm rf O1) (hw _ (List.mem_of_getElem? (i := 28) rfl)) (hw _ (List.mem_of_getElem? (i := 27) rfl)) (by decide) (by decide)) (fun _ _ _ q => q.2) (by decide) (by decide) (fun _ _ _ _ q b => by obtain ⟨⟨_, _, _, _, K, _⟩, _⟩ := q; exact Bw.keep K (by simp) b) (pc' := 183) rfl ?_
            rintro _ h2 L2 ⟨⟨sa, ta, ks, rfl, K2, S2⟩, -⟩
            show Go p l e room_1 s m #[.int x0, .int x1, .int x2, .int x3] below meth c Z "com/example/llave/llave/policy/ObjectiveOfPinLaw" n0 _ (EnW s room_1 n0 Z consts_1 (fun v _ => v = some (.int 1))) _ _ _ 183 #[.val (.int x0), .val (.int x1), .val (.int x2), .val (.int x3), .val (.int (x0 &&& (3 : Int32))), .val (.int (x3 &&& 255)), .val (.int (0 : Int32)), .unset, .unset, .val (.ref la), .val (.ref (T.2.2.1 1)), .val (.int (1 : Int32)), .val (.int (10 : Int32)), .val (.int (Int32.ofNat P)), .unset] [(.ref sa)]
            have O2 := O1.keep K2 all0
            have Z2 := Nat.le_trans Z1 K2.1
            have S1' := S1.keep K2 nin0 nin0
            refine Go.astore C at_183 rfl (L' := #[.val (.int x0), .val (.int x1), .val (.int x2), .val (.int x3), .val (.int (x0 &&& (3 : Int32))), .val (.int (x3 &&& 255)), .val (.int (0 : Int32)), .val (.ref sa), .unset, .val (.ref la), .val (.ref (T.2.2.1 1)), .val (.int (1 : Int32)), .val (.int (10 : Int32)), .val (.int (Int32.ofNat P)), .unset]) rfl (pc' := 185) rfl ?_
            refine Go.iload C at_185 rfl (pc' := 187) rfl ?_
            refine Go.if_ne_t C at_187 (by decide) (by decide) (pc' := 194) (by decide) ?_
            refine Go.iconst C at_194 (v := 0) rfl (pc' := 195) rfl ?_
            refine Go.istore C at_195 (L' := #[.val (.int x0), .val (.int x1), .val (.int x2), .val (.int x3), .val (.int (x0 &&& (3 : Int32))), .val (.int (x3 &&& 255)), .val (.int (0 : Int32)), .val (.ref sa), .unset, .val (.ref la), .val (.ref (T.2.2.1 1)), .val (.int (1 : Int32)), .val (.int (10 : Int32)), .val (.int (Int32.ofNat P)), .val (.int (0 : Int32))]) rfl (pc' := 197) rfl ?_
            refine Go.iload C at_197 rfl (pc' := 199) rfl ?_
            refine Go.if_eq_t C at_199 (by decide) (by decide) (pc' := 207) (by decide) ?_
            refine Go.aconstNull C at_207 (pc' := 208) rfl ?_
            refine Go.astore C at_208 rfl (L' := #[.val (.int x0), .val (.int x1), .val (.int x2), .val (.int x3), .val (.int (x0 &&& (3 : Int32))), .val (.int (x3 &&& 255)), .val (.int (0 : Int32)), .val (.ref sa), .val .null, .val (.ref la), .val (.ref (T.2.2.1 1)), .val (.int (1 : Int32)), .val (.int (10 : Int32)), .val (.int (Int32.ofNat P)), .val (.int (0 : Int32))]) rfl (pc' := 210) rfl ?_
            refine Go.aload C at_210 rfl rfl (pc' := 212) rfl ?_
            refine Go.callS C at_212 (hw _ (List.mem_of_getElem? (i := 76) rfl)) (hw _ (List.mem_of_getElem? (i := 77) rfl)) (hw _ (List.mem_of_getElem? (i := 9) rfl)) (hw _ (List.mem_of_getElem? (i := 78) rfl)) (by decide) (argsL := [(.ref sa)]) (rest := []) rfl (lenOf pd__Ljava_lang_String__Ljava_util_Optional_ rfl) rfl (W := 0) (Nat.le_of_ble_eq_true rfl) (Ct.pay (rm_ofs l Z a0 hw sa ta ks (own_fill (own_W 1) (x3 &&& 255) 10 16) T z h2 n0 Z2 O2 GT St hz S2) (hw _ (List.mem_of_getElem? (i := 78) rfl)) (hw _ (List.mem_of_getElem? (i := 9) rfl)) (by decide) (by decide)) (fun _ _ _ q => q.2) (by decide) (by decide) (fun _ _ _ _ q b => by obtain ⟨⟨_, _, K, _⟩, _⟩ := q; exact Bw.keep K (by simp) b) (pc' := 215) rfl ?_
            rintro _ h9 L9 ⟨⟨f9, rfl, K9, A9, F9⟩, -⟩
            show Go p l e room_1 s m #[.int x0, .int x1, .int x2, .int x3] below meth c Z "com/example/llave/llave/policy/ObjectiveOfPinLaw" n0 _ (EnW s room_1 n0 Z consts_1 (fun v _ => v = some (.int 1))) _ _ _ 215 #[.val (.int x0), .val (.int x1), .val (.int x2), .val (.int x3), .val (.int (x0 &&& (3 : Int32))), .val (.int (x3 &&& 255)), .val (.int (0 : Int32)), .val (.ref sa), .val .null, .val (.ref la), .val (.ref (T.2.2.1 1)), .val (.int (1 : Int32)), .val (.int (10 : Int32)), .val (.int (Int32.ofNat P)), .val (.int (0 : Int32))] [(.ref f9)]
            rw [own_none T.2.2.1 (own_fill (own_W 1) (x3 &&& 255) 10 16) (by simp [own_len])] at F9
            refine Go.aconstNull C at_215 (pc' := 216) rfl ?_
            refine Go.callV C at_216 (hw _ (List.mem_of_getElem? (i := 112) rfl)) (hw _ (List.mem_of_getElem? (i := 113) rfl)) (hw _ (List.mem_of_getElem? (i := 115) rfl)) (hw _ (List.mem_of_getElem? (i := 114) rfl)) (fun st hZ => notFace_of_selects (args := #[]) (mvT hZ (hw _ (List.mem_of_getElem? (i := 115) rfl)))) (by decide) A9 (argsL := [.null]) (rest := []) rfl (lenOf pd__Ljava_lang_Object__Ljava_lang_Object_ rfl) rfl (W := 0) (Nat.le_of_ble_eq_true rfl) (Ct.pay (rm_els l Z a0 hw f9 .null h9 n0 F9 (Or.inl rfl)) (hw _ (List.mem_of_getElem? (i := 116) rfl)) (hw _ (List.mem_of_getElem? (i := 81) rfl)) (by decide) (by decide)) (fun _ _ _ q => q.2) (by decide) (by decide) (fun _ _ _ _ q b => by obtain ⟨⟨_, rfl⟩, _⟩ := q; exact b) (pc' := 219) rfl ?_
            rintro _ _ L10 ⟨⟨rfl, rfl⟩, -⟩
            show Go p l e room_1 s m #[.int x0, .int x1, .int x2, .int x3] below meth c Z "com/example/llave/llave/policy/ObjectiveOfPinLaw" n0 _ (EnW s room_1 n0 Z consts_1 (fun v _ => v = some (.int 1))) _ _ _ 219 #[.val (.int x0), .val (.int x1), .val (.int x2), .val (.int x3), .val (.int (x0 &&& (3 : Int32))), .val (.int (x3 &&& 255)), .val (.int (0 : Int32)), .val (.ref sa), .val .null, .val (.ref la), .val (.ref (T.2.2.1 1)), .val (.int (1 : Int32)), .val (.int (10 : Int32)), .val (.int (Int32.ofNat P)), .val (.int (0 : Int32))] [.null]
            refine Go.castNull C at_219 (pc' := 222) rfl ?_
            refine Go.astore C at_222 rfl (L' := #[.val (.int x0), .val (.int x1), .val (.int x2), .val (.int x3), .val (.int (x0 &&& (3 : Int32))), .val (.int (x3 &&& 255)), .val (.int (0 : Int32)), .val (.ref sa), .val .null, .val .null, .val (.ref (T.2.2.1 1)), .val (.int (1 : Int32)), .val (.int (10 : Int32)), .val (.int (Int32.ofNat P)), .val (.int (0 : Int32))]) rfl (pc' := 224) rfl ?_
            refine Go.aload C at_224 rfl rfl (pc' := 226) rfl ?_
            refine Go.aload C at_226 rfl rfl (pc' := 228) rfl ?_
            refine Go.acmp_ne_f C at_228 rfl rfl rfl (by decide) (pc' := 231) rfl ?_
            refine Go.iconst C at_231 (v := 1) rfl (pc' := 232) rfl ?_
            refine Go.goto C at_232 (by decide) (pc' := 236) (by decide) ?_
            refine Go.retNW C hEL (by simp) at_236 (by decide) (by decide) ?_
            exact rfl
      · refine Go.ldcW C at_61 (hw _ (List.mem_of_getElem? (i := 0) rfl)) own_sa hEL (by decide) (vs := (((own_W 0) : List Int32).map fun c => c.toInt8.toInt32).map Value.int) (z := 15) (n := 60) ⟨by decide, by decide⟩ (by decide) (by decide) (by decide) (by decide) (by decide) (by decide) (pc' := 63) rfl ?_
        intro h1 la lb lk X1 A1 C1 V1 Y1 N1
        have S1 : Str Z h1 la lb lk (own_W 0) := ⟨A1, C1, V1, Y1, by decide, by decide⟩
        have O1 := O0.ext X1
        have Z1 := Nat.le_trans Z0 X1.1
        refine Go.astore C at_63 rfl (L' := #[.val (.int x0), .val (.int x1), .val (.int x2), .val (.int x3), .val (.int (x0 &&& (3 : Int32))), .val (.int (x3 &&& 255)), .val (.int (0 : Int32)), .unset, .unset, .val (.ref la), .unset, .unset, .unset, .unset, .unset]) rfl (pc' := 65) rfl ?_
        refine Go.getS C at_65 (hw _ (List.mem_of_getElem? (i := 8) rfl)) Via.refl ((Gs.1).ext O1.2) (pc' := 68) rfl ?_
        refine Go.astore C at_68 rfl (L' := #[.val (.int x0), .val (.int x1), .val (.int x2), .val (.int x3), .val (.int (x0 &&& (3 : Int32))), .val (.int (x3 &&& 255)), .val (.int (0 : Int32)), .unset, .unset, .val (.ref la), .val (.ref (T.2.2.1 0)), .unset, .unset, .unset, .unset]) rfl (pc' := 70) rfl ?_
        refine Go.goto C at_70 (by decide) (pc' := 100) (by decide) ?_
        refine Go.iloadN C at_100 rfl (pc' := 101) rfl ?_
        refine Go.ldcInt C at_101 (hw _ (List.mem_of_getElem? (i := 11) rfl)) (pc' := 103) rfl ?_
        refine Go.iand C at_103 (pc' := 104) rfl ?_
        refine Go.iconst C at_104 (v := 3) rfl (pc' := 105) rfl ?_
        refine Go.irem C at_105 (by decide) (pc' := 106) rfl ?_
        rcases own_rem3 x1 with ed | ed | ed
        · rw [ed]
          show Go p l e room_1 s m #[.int x0, .int x1, .int x2, .int x3] below meth c Z "com/example/llave/llave/policy/ObjectiveOfPinLaw" n0 _ (EnW s room_1 n0 Z consts_1 (fun v _ => v = some (.int 1))) _ _ _ 106 #[.val (.int x0), .val (.int x1), .val (.int x2), .val (.int x3), .val (.int (x0 &&& (3 : Int32))), .val (.int (x3 &&& 255)), .val (.int (0 : Int32)), .unset, .unset, .val (.ref la), .val (.ref (T.2.2.1 0)), .unset, .unset, .unset, .unset] [(.int (0 : Int32))]
          refine Go.iconst C at_106 (v := 1) rfl (pc' := 107) rfl ?_
          refine Go.isub C at_107 (pc' := 108) rfl ?_
          show Go p l e room_1 s m #[.int x0, .int x1, .int x2, .int x3] below meth c Z "com/example/llave/llave/policy/ObjectiveOfPinLaw" n0 _ (EnW s room_1 n0 Z consts_1 (fun v _ => v = some (.int 1))) _ _ _ 108 #[.val (.int x0), .val (.int x1), .val (.int x2), .val (.int x3), .val (.int (x0 &&& (3 : Int32))), .val (.int (x3 &&& 255)), .val (.int (0 : Int32)), .unset, .unset, .val (.ref la), .val (.ref (T.2.2.1 0)), .unset, .unset, .unset, .unset] [(.int (-1 : Int32))]
          refine Go.istore C at_108 (L' := #[.val (.int x0), .val (.int x1), .val (.int x2), .val (.int x3), .val (.int (x0 &&& (3 : Int32))), .val (.int (x3 &&& 255)), .val (.int (0 : Int32)), .unset, .unset, .val (.ref la), .val (.ref (T.2.2.1 0)), .val (.int (-1 : Int32)), .unset, .unset, .unset]) rfl (pc' := 110) rfl ?_
          refine Go.aload C at_110 rfl rfl (pc' := 112) rfl ?_
          refine Go.callV C at_112 (hw _ (List.mem_of_getElem? (i := 12) rfl)) (hw _ (List.mem_of_getElem? (i := 13) rfl)) (hw _ (List.mem_of_getElem? (i := 15) rfl)) (hw _ (List.mem_of_getElem? (i := 14) rfl)) (fun st hZ => notFace_of_selects (args := #[]) (mvT hZ (hw _ (List.mem_of_getElem? (i := 15) rfl)))) (by decide) S1.1 (argsL := []) (rest := []) rfl (lenOf pd___I rfl) rfl (W := 0) (Nat.le_of_ble_eq_true rfl) (own_lenP hw S1 (St.ext O1.2) hz (by decide) (by decide)) (fun _ _ _ q => q.2) (by decide) (by decide) (fun _ _ _ _ q b => by obtain ⟨⟨_, rfl⟩, _⟩ := q; exact b) (pc' := 115) rfl ?_
          rintro _ _ L1 ⟨⟨rfl, rfl⟩, -⟩
          show Go p l e room_1 s m #[.int x0, .int x1, .int x2, .int x3] below meth c Z "com/example/llave/llave/policy/ObjectiveOfPinLaw" n0 _ (EnW s room_1 n0 Z consts_1 (fun v _ => v = some (.int 1))) _ _ _ 115 #[.val (.int x0), .val (.int x1), .val (.int x2), .val (.int x3), .val (.int (x0 &&& (3 : Int32))), .val (.int (x3 &&& 255)), .val (.int (0 : Int32)), .unset, .unset, .val (.ref la), .val (.ref (T.2.2.1 0)), .val (.int (-1 : Int32)), .unset, .unset, .unset] [(.int (15 : Int32))]
          refine Go.iload C at_115 rfl (pc' := 117) rfl ?_
          refine Go.iadd C at_117 (pc' := 118) rfl ?_
          show Go p l e room_1 s m #[.int x0, .int x1, .int x2, .int x3] below meth c Z "com/example/llave/llave/policy/ObjectiveOfPinLaw" n0 _ (EnW s room_1 n0 Z consts_1 (fun v _ => v = some (.int 1))) _ _ _ 118 #[.val (.int x0), .val (.int x1), .val (.int x2), .val (.int x3), .val (.int (x0 &&& (3 : Int32))), .val (.int (x3 &&& 255)), .val (.int (0 : Int32)), .unset, .unset, .val (.ref la), .val (.ref (T.2.2.1 0)), .val (.int (-1 : Int32)), .unset, .unset, .unset] [(.int (14 : Int32))]
          refine Go.istore C at_118 (L' := #[.val (.int x0), .val (.int x1), .val (.int x2), .val (.int x3), .val (.int (x0 &&& (3 : Int32))), .val (.int (x3 &&& 255)), .val (.int (0 : Int32)), .unset, .unset, .val (.ref la), .val (.ref (T.2.2.1 0)), .val (.int (-1 : Int32)), .val (.int (14 : Int32)), .unset, .unset]) rfl (pc' := 120) rfl ?_
          refine Go.iloadN C at_120 rfl (pc' := 121) rfl ?_
          refine Go.ldcInt C at_121 (hw _ (List.mem_of_getElem? (i := 11) rfl)) (pc' := 123) rfl ?_
          refine Go.iand C at_123 (pc' := 124) rfl ?_
          refine Go.iload C at_124 rfl (pc' := 126) rfl ?_
          refine Go.irem C at_126 (by decide) (pc' := 127) rfl ?_
          obtain ⟨P, hP, eP⟩ := own_rem 14 (by decide) (by decide) x2 14 rfl
          rw [eP]
          show Go p l e room_1 s m #[.int x0, .int x1, .int x2, .int x3] below meth c Z "com/example/llave/llave/policy/ObjectiveOfPinLaw" n0 _ (EnW s room_1 n0 Z consts_1 (fun v _ => v = some (.int 1))) _ _ _ 127 #[.val (.int x0), .val (.int x1), .val (.int x2), .val (.int x3), .val (.int (x0 &&& (3 : Int32))), .val (.int (x3 &&& 255)), .val (.int (0 : Int32)), .unset, .unset, .val (.ref la), .val (.ref (T.2.2.1 0)), .val (.int (-1 : Int32)), .val (.int (14 : Int32)), .unset, .unset] [(.int (Int32.ofNat P))]
          refine Go.istore C at_127 (L' := #[.val (.int x0), .val (.int x1), .val (.int x2), .val (.int x3), .val (.int (x0 &&& (3 : Int32))), .val (.int (x3 &&& 255)), .val (.int (0 : Int32)), .unset, .unset, .val (.ref la), .val (.ref (T.2.2.1 0)), .val (.int (-1 : Int32)), .val (.int (14 : Int32)), .val (.int (Int32.ofNat P)), .unset]) rfl (pc' := 129) rfl ?_
          refine Go.iload C at_129 rfl (pc' := 131) rfl ?_
          refine Go.if_eq_t C at_131 (by decide) (by decide) (pc' := 174) (by decide) ?_
          refine Go.aload C at_174 rfl rfl (pc' := 176) rfl ?_
          refine Go.iload C at_176 rfl (pc' := 178) rfl ?_
          refine Go.iload C at_178 rfl (pc' := 180) rfl ?_
          show Go p l e room_1 s m #[.int x0, .int x1, .int x2, .int x3] below meth c Z "com/example/llave/llave/policy/ObjectiveOfPinLaw" n0 _ (EnW s room_1 n0 Z consts_1 (fun v _ => v = some (.int 1))) h1 _ _ 180 #[.val (.int x0), .val (.int x1), .val (.int x2), .val (.int x3), .val (.int (x0 &&& (3 : Int32))), .val (.int (x3 &&& 255)), .val (.int (0 : Int32)), .unset, .unset, .val (.ref la), .val (.ref (T.2.2.1 0)), .val (.int (-1 : Int32)), .val (.int (14 : Int32)), .val (.int (Int32.ofNat P)), .unset] [(.int (x3 &&& 255)), (.int (Int32.ofNat 14)), (.ref la)]
          refine Go.callS C at_180 (hw _ (List.mem_of_getElem? (i := 25) rfl)) (hw _ (List.mem_of_getElem? (i := 26) rfl)) (hw _ (List.mem_of_getElem? (i := 27) rfl)) (hw _ (List.mem_of_getElem? (i := 28) rfl)) (by decide) (argsL := [(.ref la), (.int (Int32.ofNat 14)), (.int (x3 &&& 255))]) (rest := []) rfl (lenOf pd__Ljava_lang_String_IC_Ljava_lang_String_ rfl) rfl (W := 0) (Nat.le_of_ble_eq_true rfl) (Ct.pay (rm_make l Z a0 hw la lb lk (own_W 0) 14 x3 z fm h1 n0 Z1 S1 (by decide) (by decide) (by decide) St hz Fm rf O1) (hw _ (List.mem_of_getElem? (i := 28) rfl)) (hw _ (List.mem_of_getElem? (i := 27) rfl)) (by decide) (by decide)) (fun _ _ _ q => q.2) (by decide) (by decide) (fun _ _ _ _ q b => by obtain ⟨⟨_, _, _, _, K, _⟩, _⟩ := q; exact Bw.keep K (by simp) b) (pc' := 183) rfl ?_
          rintro _ h2 L2 ⟨⟨sa, ta, ks, rfl, K2, S2⟩, -⟩
          show Go p l e room_1 s m #[.int x0, .int x1, .int x2, .int x3] below meth c Z "com/example/llave/llave/policy/ObjectiveOfPinLaw" n0 _ (EnW s room_1 n0 Z consts_1 (fun v _ => v = some (.int 1))) _ _ _ 183 #[.val (.int x0), .val (.int x1), .val (.int x2), .val (.int x3), .val (.int (x0 &&& (3 : Int32))), .val (.int (x3 &&& 255)), .val (.int (0 : Int32)), .unset, .unset, .val (.ref la), .val (.ref (T.2.2.1 0)), .val (.int (-1 : Int32)), .val (.int (14 : Int32)), .val (.int (Int32.ofNat P)), .unset] [(.ref sa)]
          have O2 := O1.keep K2 all0
          have Z2 := Nat.le_trans Z1 K2.1
          have S1' := S1.keep K2 nin0 nin0
          refine Go.astore C at_183 rfl (L' := #[.val (.int x0), .val (.int x1), .val (.int x2), .val (.int x3), .val (.int (x0 &&& (3 : Int32))), .val (.int (x3 &&& 255)), .val (.int (0 : Int32)), .val (.ref sa), .unset, .val (.ref la), .val (.ref (T.2.2.1 0)), .val (.int (-1 : Int32)), .val (.int (14 : Int32)), .val (.int (Int32.ofNat P)), .unset]) rfl (pc' := 185) rfl ?_
          refine Go.iload C at_185 rfl (pc' := 187) rfl ?_
          refine Go.if_ne_t C at_187 (by decide) (by decide) (pc' := 194) (by decide) ?_
          refine Go.iconst C at_194 (v := 0) rfl (pc' := 195) rfl ?_
          refine Go.istore C at_195 (L' := #[.val (.int x0), .val (.int x1), .val (.int x2), .val (.int x3), .val (.int (x0 &&& (3 : Int32))), .val (.int (x3 &&& 255)), .val (.int (0 : Int32)), .val (.ref sa), .unset, .val (.ref la), .val (.ref (T.2.2.1 0)), .val (.int (-1 : Int32)), .val (.int (14 : Int32)), .val (.int (Int32.ofNat P)), .val (.int (0 : Int32))]) rfl (pc' := 197) rfl ?_
          refine Go.iload C at_197 rfl (pc' := 199) rfl ?_
          refine Go.if_eq_t C at_199 (by decide) (by decide) (pc' := 207) (by decide) ?_
          refine Go.aconstNull C at_207 (pc' := 208) rfl ?_
          refine Go.astore C at_208 rfl (L' := #[.val (.int x0), .val (.int x1), .val (.int x2), .val (.int x3), .val (.int (x0 &&& (3 : Int32))), .val (.int (x3 &&& 255)), .val (.int (0 : Int32)), .val (.ref sa), .val .null, .val (.ref la), .val (.ref (T.2.2.1 0)), .val (.int (-1 : Int32)), .val (.int (14 : Int32)), .val (.int (Int32.ofNat P)), .val (.int (0 : Int32))]) rfl (pc' := 210) rfl ?_
          refine Go.aload C at_210 rfl rfl (pc' := 212) rfl ?_
          refine Go.callS C at_212 (hw _ (List.mem_of_getElem? (i := 76) rfl)) (hw _ (List.mem_of_getElem? (i := 77) rfl)) (hw _ (List.mem_of_getElem? (i := 9) rfl)) (hw _ (List.mem_of_getElem? (i := 78) rfl)) (by decide) (argsL := [(.ref sa)]) (rest := []) rfl (lenOf pd__Ljava_lang_String__Ljava_util_Optional_ rfl) rfl (W := 0) (Nat.le_of_ble_eq_true rfl) (Ct.pay (rm_ofs l Z a0 hw sa ta ks (own_fill (own_W 0) (x3 &&& 255) 14 16) T z h2 n0 Z2 O2 GT St hz S2) (hw _ (List.mem_of_getElem? (i := 78) rfl)) (hw _ (List.mem_of_getElem? (i := 9) rfl)) (by decide) (by decide)) (fun _ _ _ q => q.2) (by decide) (by decide) (fun _ _ _ _ q b => by obtain ⟨⟨_, _, K, _⟩, _⟩ := q; exact Bw.keep K (by simp) b) (pc' := 215) rfl ?_
          rintro _ h9 L9 ⟨⟨f9, rfl, K9, A9, F9⟩, -⟩
          show Go p l e room_1 s m #[.int x0, .int x1, .int x2, .int x3] below meth c Z "com/example/llave/llave/policy/ObjectiveOfPinLaw" n0 _ (EnW s room_1 n0 Z consts_1 (fun v _ => v = some (.int 1))) _ _ _ 215 #[.val (.int x0), .val (.int x1), .val (.int x2), .val (.int x3), .val (.int (x0 &&& (3 : Int32))), .val (.int (x3 &&& 255)), .val (.int (0 : Int32)), .val (.ref sa), .val .null, .val (.ref la), .val (.ref (T.2.2.1 0)), .val (.int (-1 : Int32)), .val (.int (14 : Int32)), .val (.int (Int32.ofNat P)), .val (.int (0 : Int32))] [(.ref f9)]
          rw [own_none T.2.2.1 (own_fill (own_W 0) (x3 &&& 255) 14 16) (by simp [own_len])] at F9
          refine Go.aconstNull C at_215 (pc' := 216) rfl ?_
          refine Go.callV C at_216 (hw _ (List.mem_of_getElem? (i := 112) rfl)) (hw _ (List.mem_of_getElem? (i := 113) rfl)) (hw _ (List.mem_of_getElem? (i := 115) rfl)) (hw _ (List.mem_of_getElem? (i := 114) rfl)) (fun st hZ => notFace_of_selects (args := #[]) (mvT hZ (hw _ (List.mem_of_getElem? (i := 115) rfl)))) (by decide) A9 (argsL := [.null]) (rest := []) rfl (lenOf pd__Ljava_lang_Object__Ljava_lang_Object_ rfl) rfl (W := 0) (Nat.le_of_ble_eq_true rfl) (Ct.pay (rm_els l Z a0 hw f9 .null h9 n0 F9 (Or.inl rfl)) (hw _ (List.mem_of_getElem? (i := 116) rfl)) (hw _ (List.mem_of_getElem? (i := 81) rfl)) (by decide) (by decide)) (fun _ _ _ q => q.2) (by decide) (by decide) (fun _ _ _ _ q b => by obtain ⟨⟨_, rfl⟩, _⟩ := q; exact b) (pc' := 219) rfl ?_
          rintro _ _ L10 ⟨⟨rfl, rfl⟩, -⟩
          show Go p l e room_1 s m #[.int x0, .int x1, .int x2, .int x3] below meth c Z "com/example/llave/llave/policy/ObjectiveOfPinLaw" n0 _ (EnW s room_1 n0 Z consts_1 (fun v _ => v = some (.int 1))) _ _ _ 219 #[.val (.int x0), .val (.int x1), .val (.int x2), .val (.int x3), .val (.int (x0 &&& (3 : Int32))), .val (.int (x3 &&& 255)), .val (.int (0 : Int32)), .val (.ref sa), .val .null, .val (.ref la), .val (.ref (T.2.2.1 0)), .val (.int (-1 : Int32)), .val (.int (14 : Int32)), .val (.int (Int32.ofNat P)), .val (.int (0 : Int32))] [.null]
          refine Go.castNull C at_219 (pc' := 222) rfl ?_
          refine Go.astore C at_222 rfl (L' := #[.val (.int x0), .val (.int x1), .val (.int x2), .val (.int x3), .val (.int (x0 &&& (3 : Int32))), .val (.int (x3 &&& 255)), .val (.int (0 : Int32)), .val (.ref sa), .val .null, .val .null, .val (.ref (T.2.2.1 0)), .val (.int (-1 : Int32)), .val (.int (14 : Int32)), .val (.int (Int32.ofNat P)), .val (.int (0 : Int32))]) rfl (pc' := 224) rfl ?_
          refine Go.aload C at_224 rfl rfl (pc' := 226) rfl ?_
          refine Go.aload C at_226 rfl rfl (pc' := 228) rfl ?_
          refine Go.acmp_ne_f C at_228 rfl rfl rfl (by decide) (pc' := 231) rfl ?_
          refine Go.iconst C at_231 (v := 1) rfl (pc' := 232) rfl ?_
          refine Go.goto C at_232 (by decide) (pc' := 236) (by decide) ?_
          refine Go.retNW C hEL (by simp) at_236 (by decide) (by decide) ?_
          exact rfl
        · rw [ed]
          show Go p l e room_1 s m #[.int x0, .int x1, .int x2, .int x3] below meth c Z "com/example/llave/llave/policy/ObjectiveOfPinLaw" n0 _ (EnW s room_1 n0 Z consts_1 (fun v _ => v = some (.int 1))) _ _ _ 106 #[.val (.int x0), .val (.int x1), .val (.int x2), .val (.int x3), .val (.int (x0 &&& (3 : Int32))), .val (.int (x3 &&& 255)), .val (.int (0 : Int32)), .unset, .unset, .val (.ref la), .val (.ref (T.2.2.1 0)), .unset, .unset, .unset, .unset] [(.int (1 : Int32))]
          refine Go.iconst C at_106 (v := 1) rfl (pc' := 107) rfl ?_
          refine Go.isub C at_107 (pc' := 108) rfl ?_
          show Go p l e room_1 s m #[.int x0, .int x1, .int x2, .int x3] below meth c Z "com/example/llave/llave/policy/ObjectiveOfPinLaw" n0 _ (EnW s room_1 n0 Z consts_1 (fun v _ => v = some (.int 1))) _ _ _ 108 #[.val (.int x0), .val (.int x1), .val (.int x2), .val (.int x3), .val (.int (x0 &&& (3 : Int32))), .val (.int (x3 &&& 255)), .val (.int (0 : Int32)), .unset, .unset, .val (.ref la), .val (.ref (T.2.2.1 0)), .unset, .unset, .unset, .unset] [(.int (0 : Int32))]
          refine Go.istore C at_108 (L' := #[.val (.int x0), .val (.int x1), .val (.int x2), .val (.int x3), .val (.int (x0 &&& (3 : Int32))), .val (.int (x3 &&& 255)), .val (.int (0 : Int32)), .unset, .unset, .val (.ref la), .val (.ref (T.2.2.1 0)), .val (.int (0 : Int32)), .unset, .unset, .unset]) rfl (pc' := 110) rfl ?_
          refine Go.aload C at_110 rfl rfl (pc' := 112) rfl ?_
          refine Go.callV C at_112 (hw _ (List.mem_of_getElem? (i := 12) rfl)) (hw _ (List.mem_of_getElem? (i := 13) rfl)) (hw _ (List.mem_of_getElem? (i := 15) rfl)) (hw _ (List.mem_of_getElem? (i := 14) rfl)) (fun st hZ => notFace_of_selects (args := #[]) (mvT hZ (hw _ (List.mem_of_getElem? (i := 15) rfl)))) (by decide) S1.1 (argsL := []) (rest := []) rfl (lenOf pd___I rfl) rfl (W := 0) (Nat.le_of_ble_eq_true rfl) (own_lenP hw S1 (St.ext O1.2) hz (by decide) (by decide)) (fun _ _ _ q => q.2) (by decide) (by decide) (fun _ _ _ _ q b => by obtain ⟨⟨_, rfl⟩, _⟩ := q; exact b) (pc' := 115) rfl ?_
          rintro _ _ L1 ⟨⟨rfl, rfl⟩, -⟩
          show Go p l e room_1 s m #[.int x0, .int x1, .int x2, .int x3] below meth c Z "com/example/llave/llave/policy/ObjectiveOfPinLaw" n0 _ (EnW s room_1 n0 Z consts_1 (fun v _ => v = some (.int 1))) _ _ _ 115 #[.val (.int x0), .val (.int x1), .val (.int x2), .val (.int x3), .val (.int (x0 &&& (3 : Int32))), .val (.int (x3 &&& 255)), .val (.int (0 : Int32)), .unset, .unset, .val (.ref la), .val (.ref (T.2.2.1 0)), .val (.int (0 : Int32)), .unset, .unset, .unset] [(.int (15 : Int32))]
          refine Go.iload C at_115 rfl (pc' := 117) rfl ?_
          refine Go.iadd C at_117 (pc' := 118) rfl ?_
          show Go p l e room_1 s m #[.int x0, .int x1, .int x2, .int x3] below meth c Z "com/example/llave/llave/policy/ObjectiveOfPinLaw" n0 _ (EnW s room_1 n0 Z consts_1 (fun v _ => v = some (.int 1))) _ _ _ 118 #[.val (.int x0), .val (.int x1), .val (.int x2), .val (.int x3), .val (.int (x0 &&& (3 : Int32))), .val (.int (x3 &&& 255)), .val (.int (0 : Int32)), .unset, .unset, .val (.ref la), .val (.ref (T.2.2.1 0)), .val (.int (0 : Int32)), .unset, .unset, .unset] [(.int (15 : Int32))]
          refine Go.istore C at_118 (L' := #[.val (.int x0), .val (.int x1), .val (.int x2), .val (.int x3), .val (.int (x0 &&& (3 : Int32))), .val (.int (x3 &&& 255)), .val (.int (0 : Int32)), .unset, .unset, .val (.ref la), .val (.ref (T.2.2.1 0)), .val (.int (0 : Int32)), .val (.int (15 : Int32)), .unset, .unset]) rfl (pc' := 120) rfl ?_
          refine Go.iloadN C at_120 rfl (pc' := 121) rfl ?_
          refine Go.ldcInt C at_121 (hw _ (List.mem_of_getElem? (i := 11) rfl)) (pc' := 123) rfl ?_
          refine Go.iand C at_123 (pc' := 124) rfl ?_
          refine Go.iload C at_124 rfl (pc' := 126) rfl ?_
          refine Go.irem C at_126 (by decide) (pc' := 127) rfl ?_
          obtain ⟨P, hP, eP⟩ := own_rem 15 (by decide) (by decide) x2 15 rfl
          rw [eP]
          show Go p l e room_1 s m #[.int x0, .int x1, .int x2, .int x3] below meth c Z "com/example/llave/llave/policy/ObjectiveOfPinLaw" n0 _ (EnW s room_1 n0 Z consts_1 (fun v _ => v = some (.int 1))) _ _ _ 127 #[.val (.int x0), .val (.int x1), .val (.int x2), .val (.int x3), .val (.int (x0 &&& (3 : Int32))), .val (.int (x3 &&& 255)), .val (.int (0 : Int32)), .unset, .unset, .val (.ref la), .val (.ref (T.2.2.1 0)), .val (.int (0 : Int32)), .val (.int (15 : Int32)), .unset, .unset] [(.int (Int32.ofNat P))]
          refine Go.istore C at_127 (L' := #[.val (.int x0), .val (.int x1), .val (.int x2), .val (.int x3), .val (.int (x0 &&& (3 : Int32))), .val (.int (x3 &&& 255)), .val (.int (0 : Int32)), .unset, .unset, .val (.ref la), .val (.ref (T.2.2.1 0)), .val (.int (0 : Int32)), .val (.int (15 : Int32)), .val (.int (Int32.ofNat P)), .unset]) rfl (pc' := 129) rfl ?_
          refine Go.iload C at_129 rfl (pc' := 131) rfl ?_
          refine Go.if_eq_t C at_131 (by decide) (by decide) (pc' := 174) (by decide) ?_
          refine Go.aload C at_174 rfl rfl (pc' := 176) rfl ?_
          refine Go.iload C at_176 rfl (pc' := 178) rfl ?_
          refine Go.iload C at_178 rfl (pc' := 180) rfl ?_
          show Go p l e room_1 s m #[.int x0, .int x1, .int x2, .int x3] below meth c Z "com/example/llave/llave/policy/ObjectiveOfPinLaw" n0 _ (EnW s room_1 n0 Z consts_1 (fun v _ => v = some (.int 1))) h1 _ _ 180 #[.val (.int x0), .val (.int x1), .val (.int x2), .val (.int x3), .val (.int (x0 &&& (3 : Int32))), .val (.int (x3 &&& 255)), .val (.int (0 : Int32)), .unset, .unset, .val (.ref la), .val (.ref (T.2.2.1 0)), .val (.int (0 : Int32)), .val (.int (15 : Int32)), .val (.int (Int32.ofNat P)), .unset] [(.int (x3 &&& 255)), (.int (Int32.ofNat 15)), (.ref la)]
          refine Go.callS C at_180 (hw _ (List.mem_of_getElem? (i := 25) rfl)) (hw _ (List.mem_of_getElem? (i := 26) rfl)) (hw _ (List.mem_of_getElem? (i := 27) rfl)) (hw _ (List.mem_of_getElem? (i := 28) rfl)) (by decide) (argsL := [(.ref la), (.int (Int32.ofNat 15)), (.int (x3 &&& 255))]) (rest := []) rfl (lenOf pd__Ljava_lang_String_IC_Ljava_lang_String_ rfl) rfl (W := 0) (Nat.le_of_ble_eq_true rfl) (Ct.pay (rm_make l Z a0 hw la lb lk (own_W 0) 15 x3 z fm h1 n0 Z1 S1 (by decide) (by decide) (by decide) St hz Fm rf O1) (hw _ (List.mem_of_getElem? (i := 28) rfl)) (hw _ (List.mem_of_getElem? (i := 27) rfl)) (by decide) (by decide)) (fun _ _ _ q => q.2) (by decide) (by decide) (fun _ _ _ _ q b => by obtain ⟨⟨_, _, _, _, K, _⟩, _⟩ := q; exact Bw.keep K (by simp) b) (pc' := 183) rfl ?_
          rintro _ h2 L2 ⟨⟨sa, ta, ks, rfl, K2, S2⟩, -⟩
          show Go p l e room_1 s m #[.int x0, .int x1, .int x2, .int x3] below meth c Z "com/example/llave/llave/policy/ObjectiveOfPinLaw" n0 _ (EnW s room_1 n0 Z consts_1 (fun v _ => v = some (.int 1))) _ _ _ 183 #[.val (.int x0), .val (.int x1), .val (.int x2), .val (.int x3), .val (.int (x0 &&& (3 : Int32))), .val (.int (x3 &&& 255)), .val (.int (0 : Int32)), .unset, .unset, .val (.ref la), .val (.ref (T.2.2.1 0)), .val (.int (0 : Int32)), .val (.int (15 : Int32)), .val (.int (Int32.ofNat P)), .unset] [(.ref sa)]
          have O2 := O1.keep K2 all0
          have Z2 := Nat.le_trans Z1 K2.1
          have S1' := S1.keep K2 nin0 nin0
          refine Go.astore C at_183 rfl (L' := #[.val (.int x0), .val (.int x1), .val (.int x2), .val (.int x3), .val (.int (x0 &&& (3 : Int32))), .val (.int (x3 &&& 255)), .val (.int (0 : Int32)), .val (.ref sa), .unset, .val (.ref la), .val (.ref (T.2.2.1 0)), .val (.int (0 : Int32)), .val (.int (15 : Int32)), .val (.int (Int32.ofNat P)), .unset]) rfl (pc' := 185) rfl ?_
          refine Go.iload C at_185 rfl (pc' := 187) rfl ?_
          refine Go.if_ne_f C at_187 (by decide) (pc' := 190) rfl ?_
          refine Go.iconst C at_190 (v := 1) rfl (pc' := 191) rfl ?_
          refine Go.goto C at_191 (by decide) (pc' := 195) (by decide) ?_
          refine Go.istore C at_195 (L' := #[.val (.int x0), .val (.int x1), .val (.int x2), .val (.int x3), .val (.int (x0 &&& (3 : Int32))), .val (.int (x3 &&& 255)), .val (.int (0 : Int32)), .val (.ref sa), .unset, .val (.ref la), .val (.ref (T.2.2.1 0)), .val (.int (0 : Int32)), .val (.int (15 : Int32)), .val (.int (Int32.ofNat P)), .val (.int (1 : Int32))]) rfl (pc' := 197) rfl ?_
          refine Go.iload C at_197 rfl (pc' := 199) rfl ?_
          refine Go.if_eq_f C at_199 (by decide) (pc' := 202) rfl ?_
          refine Go.aload C at_202 rfl rfl (pc' := 204) rfl ?_
          refine Go.goto C at_204 (by decide) (pc' := 208) (by decide) ?_
          refine Go.astore C at_208 rfl (L' := #[.val (.int x0), .val (.int x1), .val (.int x2), .val (.int x3), .val (.int (x0 &&& (3 : Int32))), .val (.int (x3 &&& 255)), .val (.int (0 : Int32)), .val (.ref sa), .val (.ref (T.2.2.1 0)), .val (.ref la), .val (.ref (T.2.2.1 0)), .val (.int (0 : Int32)), .val (.int (15 : Int32)), .val (.int (Int32.ofNat P)), .val (.int (1 : Int32))]) rfl (pc' := 210) rfl ?_
          refine Go.aload C at_210 rfl rfl (pc' := 212) rfl ?_
          refine Go.callS C at_212 (hw _ (List.mem_of_getElem? (i := 76) rfl)) (hw _ (List.mem_of_getElem? (i := 77) rfl)) (hw _ (List.mem_of_getElem? (i := 9) rfl)) (hw _ (List.mem_of_getElem? (i := 78) rfl)) (by decide) (argsL := [(.ref sa)]) (rest := []) rfl (lenOf pd__Ljava_lang_String__Ljava_util_Optional_ rfl) rfl (W := 0) (Nat.le_of_ble_eq_true rfl) (Ct.pay (rm_ofs l Z a0 hw sa ta ks (own_fill (own_W 0) (x3 &&& 255) 15 16) T z h2 n0 Z2 O2 GT St hz S2) (hw _ (List.mem_of_getElem? (i := 78) rfl)) (hw _ (List.mem_of_getElem? (i := 9) rfl)) (by decide) (by decide)) (fun _ _ _ q => q.2) (by decide) (by decide) (fun _ _ _ _ q b => by obtain ⟨⟨_, _, K, _⟩, _⟩ := q; exact Bw.keep K (by simp) b) (pc' := 215) rfl ?_
          rintro _ h9 L9 ⟨⟨f9, rfl, K9, A9, F9⟩, -⟩
          show Go p l e room_1 s m #[.int x0, .int x1, .int x2, .int x3] below meth c Z "com/example/llave/llave/policy/ObjectiveOfPinLaw" n0 _ (EnW s room_1 n0 Z consts_1 (fun v _ => v = some (.int 1))) _ _ _ 215 #[.val (.int x0), .val (.int x1), .val (.int x2), .val (.int x3), .val (.int (x0 &&& (3 : Int32))), .val (.int (x3 &&& 255)), .val (.int (0 : Int32)), .val (.ref sa), .val (.ref (T.2.2.1 0)), .val (.ref la), .val (.ref (T.2.2.1 0)), .val (.int (0 : Int32)), .val (.int (15 : Int32)), .val (.int (Int32.ofNat P)), .val (.int (1 : Int32))] [(.ref f9)]
          rw [own_same0] at F9
          refine Go.aconstNull C at_215 (pc' := 216) rfl ?_
          refine Go.callV C at_216 (hw _ (List.mem_of_getElem? (i := 112) rfl)) (hw _ (List.mem_of_getElem? (i := 113) rfl)) (hw _ (List.mem_of_getElem? (i := 115) rfl)) (hw _ (List.mem_of_getElem? (i := 114) rfl)) (fun st hZ => notFace_of_selects (args := #[]) (mvT hZ (hw _ (List.mem_of_getElem? (i := 115) rfl)))) (by decide) A9 (argsL := [.null]) (rest := []) rfl (lenOf pd__Ljava_lang_Object__Ljava_lang_Object_ rfl) rfl (W := 0) (Nat.le_of_ble_eq_true rfl) (Ct.pay (rm_els l Z a0 hw f9 (.ref (T.2.2.1 0)) h9 n0 F9 (Or.inr ⟨_, rfl⟩)) (hw _ (List.mem_of_getElem? (i := 116) rfl)) (hw _ (List.mem_of_getElem? (i := 81) rfl)) (by decide) (by decide)) (fun _ _ _ q => q.2) (by decide) (by decide) (fun _ _ _ _ q b => by obtain ⟨⟨_, rfl⟩, _⟩ := q; exact b) (pc' := 219) rfl ?_
          rintro _ _ L10 ⟨⟨rfl, rfl⟩, -⟩
          show Go p l e room_1 s m #[.int x0, .int x1, .int x2, .int x3] below meth c Z "com/example/llave/llave/policy/ObjectiveOfPinLaw" n0 _ (EnW s room_1 n0 Z consts_1 (fun v _ => v = some (.int 1))) _ _ _ 219 #[.val (.int x0), .val (.int x1), .val (.int x2), .val (.int x3), .val (.int (x0 &&& (3 : Int32))), .val (.int (x3 &&& 255)), .val (.int (0 : Int32)), .val (.ref sa), .val (.ref (T.2.2.1 0)), .val (.ref la), .val (.ref (T.2.2.1 0)), .val (.int (0 : Int32)), .val (.int (15 : Int32)), .val (.int (Int32.ofNat P)), .val (.int (1 : Int32))] [(.ref (T.2.2.1 0))]
          refine Go.castY C at_219 (hw _ (List.mem_of_getElem? (i := 141) rfl)) (Ins.self (((Gj 0).1.ext O2.2).keep K9)) (pc' := 222) rfl ?_
          refine Go.astore C at_222 rfl (L' := #[.val (.int x0), .val (.int x1), .val (.int x2), .val (.int x3), .val (.int (x0 &&& (3 : Int32))), .val (.int (x3 &&& 255)), .val (.int (0 : Int32)), .val (.ref sa), .val (.ref (T.2.2.1 0)), .val (.ref (T.2.2.1 0)), .val (.ref (T.2.2.1 0)), .val (.int (0 : Int32)), .val (.int (15 : Int32)), .val (.int (Int32.ofNat P)), .val (.int (1 : Int32))]) rfl (pc' := 224) rfl ?_
          refine Go.aload C at_224 rfl rfl (pc' := 226) rfl ?_
          refine Go.aload C at_226 rfl rfl (pc' := 228) rfl ?_
          refine Go.acmp_ne_f C at_228 rfl rfl rfl (by decide) (pc' := 231) rfl ?_
          refine Go.iconst C at_231 (v := 1) rfl (pc' := 232) rfl ?_
          refine Go.goto C at_232 (by decide) (pc' := 236) (by decide) ?_
          refine Go.retNW C hEL (by simp) at_236 (by decide) (by decide) ?_
          exact rfl
        · rw [ed]
          show Go p l e room_1 s m #[.int x0, .int x1, .int x2, .int x3] below meth c Z "com/example/llave/llave/policy/ObjectiveOfPinLaw" n0 _ (EnW s room_1 n0 Z consts_1 (fun v _ => v = some (.int 1))) _ _ _ 106 #[.val (.int x0), .val (.int x1), .val (.int x2), .val (.int x3), .val (.int (x0 &&& (3 : Int32))), .val (.int (x3 &&& 255)), .val (.int (0 : Int32)), .unset, .unset, .val (.ref la), .val (.ref (T.2.2.1 0)), .unset, .unset, .unset, .unset] [(.int (2 : Int32))]
          refine Go.iconst C at_106 (v := 1) rfl (pc' := 107) rfl ?_
          refine Go.isub C at_107 (pc' := 108) rfl ?_
          show Go p l e room_1 s m #[.int x0, .int x1, .int x2, .int x3] below meth c Z "com/example/llave/llave/policy/ObjectiveOfPinLaw" n0 _ (EnW s room_1 n0 Z consts_1 (fun v _ => v = some (.int 1))) _ _ _ 108 #[.val (.int x0), .val (.int x1), .val (.int x2), .val (.int x3), .val (.int (x0 &&& (3 : Int32))), .val (.int (x3 &&& 255)), .val (.int (0 : Int32)), .unset, .unset, .val (.ref la), .val (.ref (T.2.2.1 0)), .unset, .unset, .unset, .unset] [(.int (1 : Int32))]
          refine Go.istore C at_108 (L' := #[.val (.int x0), .val (.int x1), .val (.int x2), .val (.int x3), .val (.int (x0 &&& (3 : Int32))), .val (.int (x3 &&& 255)), .val (.int (0 : Int32)), .unset, .unset, .val (.ref la), .val (.ref (T.2.2.1 0)), .val (.int (1 : Int32)), .unset, .unset, .unset]) rfl (pc' := 110) rfl ?_
          refine Go.aload C at_110 rfl rfl (pc' := 112) rfl ?_
          refine Go.callV C at_112 (hw _ (List.mem_of_getElem? (i := 12) rfl)) (hw _ (List.mem_of_getElem? (i := 13) rfl)) (hw _ (List.mem_of_getElem? (i := 15) rfl)) (hw _ (List.mem_of_getElem? (i := 14) rfl)) (fun st hZ => notFace_of_selects (args := #[]) (mvT hZ (hw _ (List.mem_of_getElem? (i := 15) rfl)))) (by decide) S1.1 (argsL := []) (rest := []) rfl (lenOf pd___I rfl) rfl (W := 0) (Nat.le_of_ble_eq_true rfl) (own_lenP hw S1 (St.ext O1.2) hz (by decide) (by decide)) (fun _ _ _ q => q.2) (by decide) (by decide) (fun _ _ _ _ q b => by obtain ⟨⟨_, rfl⟩, _⟩ := q; exact b) (pc' := 115) rfl ?_
          rintro _ _ L1 ⟨⟨rfl, rfl⟩, -⟩
          show Go p l e room_1 s m #[.int x0, .int x1, .int x2, .int x3] below meth c Z "com/example/llave/llave/policy/ObjectiveOfPinLaw" n0 _ (EnW s room_1 n0 Z consts_1 (fun v _ => v = some (.int 1))) _ _ _ 115 #[.val (.int x0), .val (.int x1), .val (.int x2), .val (.int x3), .val (.int (x0 &&& (3 : Int32))), .val (.int (x3 &&& 255)), .val (.int (0 : Int32)), .unset, .unset, .val (.ref la), .val (.ref (T.2.2.1 0)), .val (.int (1 : Int32)), .unset, .unset, .unset] [(.int (15 : Int32))]
          refine Go.iload C at_115 rfl (pc' := 117) rfl ?_
          refine Go.iadd C at_117 (pc' := 118) rfl ?_
          show Go p l e room_1 s m #[.int x0, .int x1, .int x2, .int x3] below meth c Z "com/example/llave/llave/policy/ObjectiveOfPinLaw" n0 _ (EnW s room_1 n0 Z consts_1 (fun v _ => v = some (.int 1))) _ _ _ 118 #[.val (.int x0), .val (.int x1), .val (.int x2), .val (.int x3), .val (.int (x0 &&& (3 : Int32))), .val (.int (x3 &&& 255)), .val (.int (0 : Int32)), .unset, .unset, .val (.ref la), .val (.ref (T.2.2.1 0)), .val (.int (1 : Int32)), .unset, .unset, .unset] [(.int (16 : Int32))]
          refine Go.istore C at_118 (L' := #[.val (.int x0), .val (.int x1), .val (.int x2), .val (.int x3), .val (.int (x0 &&& (3 : Int32))), .val (.int (x3 &&& 255)), .val (.int (0 : Int32)), .unset, .unset, .val (.ref la), .val (.ref (T.2.2.1 0)), .val (.int (1 : Int32)), .val (.int (16 : Int32)), .unset, .unset]) rfl (pc' := 120) rfl ?_
          refine Go.iloadN C at_120 rfl (pc' := 121) rfl ?_
          refine Go.ldcInt C at_121 (hw _ (List.mem_of_getElem? (i := 11) rfl)) (pc' := 123) rfl ?_
          refine Go.iand C at_123 (pc' := 124) rfl ?_
          refine Go.iload C at_124 rfl (pc' := 126) rfl ?_
          refine Go.irem C at_126 (by decide) (pc' := 127) rfl ?_
          obtain ⟨P, hP, eP⟩ := own_rem 16 (by decide) (by decide) x2 16 rfl
          rw [eP]
          show Go p l e room_1 s m #[.int x0, .int x1, .int x2, .int x3] below meth c Z "com/example/llave/llave/policy/ObjectiveOfPinLaw" n0 _ (EnW s room_1 n0 Z consts_1 (fun v _ => v = some (.int 1))) _ _ _ 127 #[.val (.int x0), .val (.int x1), .val (.int x2), .val (.int x3), .val (.int (x0 &&& (3 : Int32))), .val (.int (x3 &&& 255)), .val (.int (0 : Int32)), .unset, .unset, .val (.ref la), .val (.ref (T.2.2.1 0)), .val (.int (1 : Int32)), .val (.int (16 : Int32)), .unset, .unset] [(.int (Int32.ofNat P))]
          refine Go.istore C at_127 (L' := #[.val (.int x0), .val (.int x1), .val (.int x2), .val (.int x3), .val (.int (x0 &&& (3 : Int32))), .val (.int (x3 &&& 255)), .val (.int (0 : Int32)), .unset, .unset, .val (.ref la), .val (.ref (T.2.2.1 0)), .val (.int (1 : Int32)), .val (.int (16 : Int32)), .val (.int (Int32.ofNat P)), .unset]) rfl (pc' := 129) rfl ?_
          refine Go.iload C at_129 rfl (pc' := 131) rfl ?_
          refine Go.if_eq_t C at_131 (by decide) (by decide) (pc' := 174) (by decide) ?_
          refine Go.aload C at_174 rfl rfl (pc' := 176) rfl ?_
          refine Go.iload C at_176 rfl (pc' := 178) rfl ?_
          refine Go.iload C at_178 rfl (pc' := 180) rfl ?_
          show Go p l e room_1 s m #[.int x0, .int x1, .int x2, .int x3] below meth c Z "com/example/llave/llave/policy/ObjectiveOfPinLaw" n0 _ (EnW s room_1 n0 Z consts_1 (fun v _ => v = some (.int 1))) h1 _ _ 180 #[.val (.int x0), .val (.int x1), .val (.int x2), .val (.int x3), .val (.int (x0 &&& (3 : Int32))), .val (.int (x3 &&& 255)), .val (.int (0 : Int32)), .unset, .unset, .val (.ref la), .val (.ref (T.2.2.1 0)), .val (.int (1 : Int32)), .val (.int (16 : Int32)), .val (.int (Int32.ofNat P)), .unset] [(.int (x3 &&& 255)), (.int (Int32.ofNat 16)), (.ref la)]
          refine Go.callS C at_180 (hw _ (List.mem_of_getElem? (i := 25) rfl)) (hw _ (List.mem_of_getElem? (i := 26) rfl)) (hw _ (List.mem_of_getElem? (i := 27) rfl)) (hw _ (List.mem_of_getElem? (i := 28) rfl)) (by decide) (argsL := [(.ref la), (.int (Int32.ofNat 16)), (.int (x3 &&& 255))]) (rest := []) rfl (lenOf pd__Ljava_lang_String_IC_Ljava_lang_String_ rfl) rfl (W := 0) (Nat.le_of_ble_eq_true rfl) (Ct.pay (rm_make l Z a0 hw la lb lk (own_W 0) 16 x3 z fm h1 n0 Z1 S1 (by decide) (by decide) (by decide) St hz Fm rf O1) (hw _ (List.mem_of_getElem? (i := 28) rfl)) (hw _ (List.mem_of_getElem? (i := 27) rfl)) (by decide) (by decide)) (fun _ _ _ q => q.2) (by decide) (by decide) (fun _ _ _ _ q b => by obtain ⟨⟨_, _, _, _, K, _⟩, _⟩ := q; exact Bw.keep K (by simp) b) (pc' := 183) rfl ?_
          rintro _ h2 L2 ⟨⟨sa, ta, ks, rfl, K2, S2⟩, -⟩
          show Go p l e room_1 s m #[.int x0, .int x1, .int x2, .int x3] below meth c Z "com/example/llave/llave/policy/ObjectiveOfPinLaw" n0 _ (EnW s room_1 n0 Z consts_1 (fun v _ => v = some (.int 1))) _ _ _ 183 #[.val (.int x0), .val (.int x1), .val (.int x2), .val (.int x3), .val (.int (x0 &&& (3 : Int32))), .val (.int (x3 &&& 255)), .val (.int (0 : Int32)), .unset, .unset, .val (.ref la), .val (.ref (T.2.2.1 0)), .val (.int (1 : Int32)), .val (.int (16 : Int32)), .val (.int (Int32.ofNat P)), .unset] [(.ref sa)]
          have O2 := O1.keep K2 all0
          have Z2 := Nat.le_trans Z1 K2.1
          have S1' := S1.keep K2 nin0 nin0
          refine Go.astore C at_183 rfl (L' := #[.val (.int x0), .val (.int x1), .val (.int x2), .val (.int x3), .val (.int (x0 &&& (3 : Int32))), .val (.int (x3 &&& 255)), .val (.int (0 : Int32)), .val (.ref sa), .unset, .val (.ref la), .val (.ref (T.2.2.1 0)), .val (.int (1 : Int32)), .val (.int (16 : Int32)), .val (.int (Int32.ofNat P)), .unset]) rfl (pc' := 185) rfl ?_
          refine Go.iload C at_185 rfl (pc' := 187) rfl ?_
          refine Go.if_ne_t C at_187 (by decide) (by decide) (pc' := 194) (by decide) ?_
          refine Go.iconst C at_194 (v := 0) rfl (pc' := 195) rfl ?_
          refine Go.istore C at_195 (L' := #[.val (.int x0), .val (.int x1), .val (.int x2), .val (.int x3), .val (.int (x0 &&& (3 : Int32))), .val (.int (x3 &&& 255)), .val (.int (0 : Int32)), .val (.ref sa), .unset, .val (.ref la), .val (.ref (T.2.2.1 0)), .val (.int (1 : Int32)), .val (.int (16 : Int32)), .val (.int (Int32.ofNat P)), .val (.int (0 : Int32))]) rfl (pc' := 197) rfl ?_
          refine Go.iload C at_197 rfl (pc' := 199) rfl ?_
          refine Go.if_eq_t C at_199 (by decide) (by decide) (pc' := 207) (by decide) ?_
          refine Go.aconstNull C at_207 (pc' := 208) rfl ?_
          refine Go.astore C at_208 rfl (L' := #[.val (.int x0), .val (.int x1), .val (.int x2), .val (.int x3), .val (.int (x0 &&& (3 : Int32))), .val (.int (x3 &&& 255)), .val (.int (0 : Int32)), .val (.ref sa), .val .null, .val (.ref la), .val (.ref (T.2.2.1 0)), .val (.int (1 : Int32)), .val (.int (16 : Int32)), .val (.int (Int32.ofNat P)), .val (.int (0 : Int32))]) rfl (pc' := 210) rfl ?_
          refine Go.aload C at_210 rfl rfl (pc' := 212) rfl ?_
          refine Go.callS C at_212 (hw _ (List.mem_of_getElem? (i := 76) rfl)) (hw _ (List.mem_of_getElem? (i := 77) rfl)) (hw _ (List.mem_of_getElem? (i := 9) rfl)) (hw _ (List.mem_of_getElem? (i := 78) rfl)) (by decide) (argsL := [(.ref sa)]) (rest := []) rfl (lenOf pd__Ljava_lang_String__Ljava_util_Optional_ rfl) rfl (W := 0) (Nat.le_of_ble_eq_true rfl) (Ct.pay (rm_ofs l Z a0 hw sa ta ks (own_fill (own_W 0) (x3 &&& 255) 16 16) T z h2 n0 Z2 O2 GT St hz S2) (hw _ (List.mem_of_getElem? (i := 78) rfl)) (hw _ (List.mem_of_getElem? (i := 9) rfl)) (by decide) (by decide)) (fun _ _ _ q => q.2) (by decide) (by decide) (fun _ _ _ _ q b => by obtain ⟨⟨_, _, K, _⟩, _⟩ := q; exact Bw.keep K (by simp) b) (pc' := 215) rfl ?_
          rintro _ h9 L9 ⟨⟨f9, rfl, K9, A9, F9⟩, -⟩
          show Go p l e room_1 s m #[.int x0, .int x1, .int x2, .int x3] below meth c Z "com/example/llave/llave/policy/ObjectiveOfPinLaw" n0 _ (EnW s room_1 n0 Z consts_1 (fun v _ => v = some (.int 1))) _ _ _ 215 #[.val (.int x0), .val (.int x1), .val (.int x2), .val (.int x3), .val (.int (x0 &&& (3 : Int32))), .val (.int (x3 &&& 255)), .val (.int (0 : Int32)), .val (.ref sa), .val .null, .val (.ref la), .val (.ref (T.2.2.1 0)), .val (.int (1 : Int32)), .val (.int (16 : Int32)), .val (.int (Int32.ofNat P)), .val (.int (0 : Int32))] [(.ref f9)]
          rw [own_none T.2.2.1 (own_fill (own_W 0) (x3 &&& 255) 16 16) (by simp [own_len])] at F9
          refine Go.aconstNull C at_215 (pc' := 216) rfl ?_
          refine Go.callV C at_216 (hw _ (List.mem_of_getElem? (i := 112) rfl)) (hw _ (List.mem_of_getElem? (i := 113) rfl)) (hw _ (List.mem_of_getElem? (i := 115) rfl)) (hw _ (List.mem_of_getElem? (i := 114) rfl)) (fun st hZ => notFace_of_selects (args := #[]) (mvT hZ (hw _ (List.mem_of_getElem? (i := 115) rfl)))) (by decide) A9 (argsL := [.null]) (rest := []) rfl (lenOf pd__Ljava_lang_Object__Ljava_lang_Object_ rfl) rfl (W := 0) (Nat.le_of_ble_eq_true rfl) (Ct.pay (rm_els l Z a0 hw f9 .null h9 n0 F9 (Or.inl rfl)) (hw _ (List.mem_of_getElem? (i := 116) rfl)) (hw _ (List.mem_of_getElem? (i := 81) rfl)) (by decide) (by decide)) (fun _ _ _ q => q.2) (by decide) (by decide) (fun _ _ _ _ q b => by obtain ⟨⟨_, rfl⟩, _⟩ := q; exact b) (pc' := 219) rfl ?_
          rintro _ _ L10 ⟨⟨rfl, rfl⟩, -⟩
          show Go p l e room_1 s m #[.int x0, .int x1, .int x2, .int x3] below meth c Z "com/example/llave/llave/policy/ObjectiveOfPinLaw" n0 _ (EnW s room_1 n0 Z consts_1 (fun v _ => v = some (.int 1))) _ _ _ 219 #[.val (.int x0), .val (.int x1), .val (.int x2), .val (.int x3), .val (.int (x0 &&& (3 : Int32))), .val (.int (x3 &&& 255)), .val (.int (0 : Int32)), .val (.ref sa), .val .null, .val (.ref la), .val (.ref (T.2.2.1 0)), .val (.int (1 : Int32)), .val (.int (16 : Int32)), .val (.int (Int32.ofNat P)), .val (.int (0 : Int32))] [.null]
          refine Go.castNull C at_219 (pc' := 222) rfl ?_
          refine Go.astore C at_222 rfl (L' := #[.val (.int x0), .val (.int x1), .val (.int x2), .val (.int x3), .val (.int (x0 &&& (3 : Int32))), .val (.int (x3 &&& 255)), .val (.int (0 : Int32)), .val (.ref sa), .val .null, .val .null, .val (.ref (T.2.2.1 0)), .val (.int (1 : Int32)), .val (.int (16 : Int32)), .val (.int (Int32.ofNat P)), .val (.int (0 : Int32))]) rfl (pc' := 224) rfl ?_
          refine Go.aload C at_224 rfl rfl (pc' := 226) rfl ?_
          refine Go.aload C at_226 rfl rfl (pc' := 228) rfl ?_
          refine Go.acmp_ne_f C at_228 rfl rfl rfl (by decide) (pc' := 231) rfl ?_
          refine Go.iconst C at_231 (v := 1) rfl (pc' := 232) rfl ?_
          refine Go.goto C at_232 (by decide) (pc' := 236) (by decide) ?_
          refine Go.retNW C hEL (by simp) at_236 (by decide) (by decide) ?_
          exact rfl
    · refine Go.iloadN C at_34 rfl (pc' := 35) rfl ?_
      refine Go.iconst C at_35 (v := 1) rfl (pc' := 36) rfl ?_
      refine Go.iand C at_36 (pc' := 37) rfl ?_
      refine Go.if_eq C at_37 (by decide) (pc1 := 46) (by decide) (pc2 := 40) rfl (fun h1 => ?_) (fun h1 => ?_)
      · refine Go.ldcW C at_46 (hw _ (List.mem_of_getElem? (i := 126) rfl)) own_sa hEL (by decide) (vs := (([] : List Int32).map fun c => c.toInt8.toInt32).map Value.int) (z := 0) (n := 0) ⟨by decide, by decide⟩ (by decide) (by decide) (by decide) (by decide) (by decide) (by decide) (pc' := 48) rfl ?_
        intro h1 la lb lk X1 A1 C1 V1 Y1 N1
        have S1 : Str Z h1 la lb lk [] := ⟨A1, C1, V1, Y1, by decide, by decide⟩
        have O1 := O0.ext X1
        refine Go.astore C at_48 rfl (L' := #[.val (.int x0), .val (.int x1), .val (.int x2), .val (.int x3), .val (.int (x0 &&& (3 : Int32))), .val (.int (x3 &&& 255)), .val (.int (0 : Int32)), .val (.ref la), .unset, .unset, .unset, .unset, .unset, .unset, .unset]) rfl (pc' := 50) rfl ?_
        refine Go.aconstNull C at_50 (pc' := 51) rfl ?_
        refine Go.astore C at_51 rfl (L' := #[.val (.int x0), .val (.int x1), .val (.int x2), .val (.int x3), .val (.int (x0 &&& (3 : Int32))), .val (.int (x3 &&& 255)), .val (.int (0 : Int32)), .val (.ref la), .val .null, .unset, .unset, .unset, .unset, .unset, .unset]) rfl (pc' := 53) rfl ?_
        refine Go.goto C at_53 (by decide) (pc' := 210) (by decide) ?_
        refine Go.aload C at_210 rfl rfl (pc' := 212) rfl ?_
        refine Go.callS C at_212 (hw _ (List.mem_of_getElem? (i := 76) rfl)) (hw _ (List.mem_of_getElem? (i := 77) rfl)) (hw _ (List.mem_of_getElem? (i := 9) rfl)) (hw _ (List.mem_of_getElem? (i := 78) rfl)) (by decide) (argsL := [(.ref la)]) (rest := []) rfl (lenOf pd__Ljava_lang_String__Ljava_util_Optional_ rfl) rfl (W := 0) (Nat.le_of_ble_eq_true rfl) (Ct.pay (rm_ofs l Z a0 hw la lb lk [] T z h1 n0 (Nat.le_trans Z0 X1.1) O1 GT St hz S1) (hw _ (List.mem_of_getElem? (i := 78) rfl)) (hw _ (List.mem_of_getElem? (i := 9) rfl)) (by decide) (by decide)) (fun _ _ _ q => q.2) (by decide) (by decide) (fun _ _ _ _ q b => by obtain ⟨⟨_, _, K, _⟩, _⟩ := q; exact Bw.keep K (by simp) b) (pc' := 215) rfl ?_
        rintro _ h9 L9 ⟨⟨f9, rfl, K9, A9, F9⟩, -⟩
        show Go p l e room_1 s m #[.int x0, .int x1, .int x2, .int x3] below meth c Z "com/example/llave/llave/policy/ObjectiveOfPinLaw" n0 _ (EnW s room_1 n0 Z consts_1 (fun v _ => v = some (.int 1))) _ _ _ 215 #[.val (.int x0), .val (.int x1), .val (.int x2), .val (.int x3), .val (.int (x0 &&& (3 : Int32))), .val (.int (x3 &&& 255)), .val (.int (0 : Int32)), .val (.ref la), .val .null, .unset, .unset, .unset, .unset, .unset, .unset] [(.ref f9)]
        rw [show own_res T.2.2.1 [] = .null from rfl] at F9
        refine Go.aconstNull C at_215 (pc' := 216) rfl ?_
        refine Go.callV C at_216 (hw _ (List.mem_of_getElem? (i := 112) rfl)) (hw _ (List.mem_of_getElem? (i := 113) rfl)) (hw _ (List.mem_of_getElem? (i := 115) rfl)) (hw _ (List.mem_of_getElem? (i := 114) rfl)) (fun st hZ => notFace_of_selects (args := #[]) (mvT hZ (hw _ (List.mem_of_getElem? (i := 115) rfl)))) (by decide) A9 (argsL := [.null]) (rest := []) rfl (lenOf pd__Ljava_lang_Object__Ljava_lang_Object_ rfl) rfl (W := 0) (Nat.le_of_ble_eq_true rfl) (Ct.pay (rm_els l Z a0 hw f9 .null h9 n0 F9 (Or.inl rfl)) (hw _ (List.mem_of_getElem? (i := 116) rfl)) (hw _ (List.mem_of_getElem? (i := 81) rfl)) (by decide) (by decide)) (fun _ _ _ q => q.2) (by decide) (by decide) (fun _ _ _ _ q b => by obtain ⟨⟨_, rfl⟩, _⟩ := q; exact b) (pc' := 219) rfl ?_
        rintro _ _ L10 ⟨⟨rfl, rfl⟩, -⟩
        show Go p l e room_1 s m #[.int x0, .int x1, .int x2, .int x3] below meth c Z "com/example/llave/llave/policy/ObjectiveOfPinLaw" n0 _ (EnW s room_1 n0 Z consts_1 (fun v _ => v = some (.int 1))) _ _ _ 219 #[.val (.int x0), .val (.int x1), .val (.int x2), .val (.int x3), .val (.int (x0 &&& (3 : Int32))), .val (.int (x3 &&& 255)), .val (.int (0 : Int32)), .val (.ref la), .val .null, .unset, .unset, .unset, .unset, .unset, .unset] [.null]
        refine Go.castNull C at_219 (pc' := 222) rfl ?_
        refine Go.astore C at_222 rfl (L' := #[.val (.int x0), .val (.int x1), .val (.int x2), .val (.int x3), .val (.int (x0 &&& (3 : Int32))), .val (.int (x3 &&& 255)), .val (.int (0 : Int32)), .val (.ref la), .val .null, .val .null, .unset, .unset, .unset, .unset, .unset]) rfl (pc' := 224) rfl ?_
        refine Go.aload C at_224 rfl rfl (pc' := 226) rfl ?_
        refine Go.aload C at_226 rfl rfl (pc' := 228) rfl ?_
        refine Go.acmp_ne_f C at_228 rfl rfl rfl (by decide) (pc' := 231) rfl ?_
        refine Go.iconst C at_231 (v := 1) rfl (pc' := 232) rfl ?_
        refine Go.goto C at_232 (by decide) (pc' := 236) (by decide) ?_
        refine Go.retNW C hEL (by simp) at_236 (by decide) (by decide) ?_
        exact rfl
      · refine Go.aconstNull C at_40 (pc' := 41) rfl ?_
        refine Go.astore C at_41 rfl (L' := #[.val (.int x0), .val (.int x1), .val (.int x2), .val (.int x3), .val (.int (x0 &&& (3 : Int32))), .val (.int (x3 &&& 255)), .val (.int (0 : Int32)), .val .null, .unset, .unset, .unset, .unset, .unset, .unset, .unset]) rfl (pc' := 43) rfl ?_
        refine Go.goto C at_43 (by decide) (pc' := 50) (by decide) ?_
        refine Go.aconstNull C at_50 (pc' := 51) rfl ?_
        refine Go.astore C at_51 rfl (L' := #[.val (.int x0), .val (.int x1), .val (.int x2), .val (.int x3), .val (.int (x0 &&& (3 : Int32))), .val (.int (x3 &&& 255)), .val (.int (0 : Int32)), .val .null, .val .null, .unset, .unset, .unset, .unset, .unset, .unset]) rfl (pc' := 53) rfl ?_
        refine Go.goto C at_53 (by decide) (pc' := 210) (by decide) ?_
        refine Go.aload C at_210 rfl rfl (pc' := 212) rfl ?_
        refine Go.callS C at_212 (hw _ (List.mem_of_getElem? (i := 76) rfl)) (hw _ (List.mem_of_getElem? (i := 77) rfl)) (hw _ (List.mem_of_getElem? (i := 9) rfl)) (hw _ (List.mem_of_getElem? (i := 78) rfl)) (by decide) (argsL := [.null]) (rest := []) rfl (lenOf pd__Ljava_lang_String__Ljava_util_Optional_ rfl) rfl (W := 0) (Nat.le_of_ble_eq_true rfl) (Ct.pay (rm_ofn l Z a0 hw T z h0 n0 Z0 O0 GT St hz) (hw _ (List.mem_of_getElem? (i := 78) rfl)) (hw _ (List.mem_of_getElem? (i := 9) rfl)) (by decide) (by decide)) (fun _ _ _ q => q.2) (by decide) (by decide) (fun _ _ _ _ q b => by obtain ⟨⟨_, _, K, _⟩, _⟩ := q; exact Bw.keep K (by simp) b) (pc' := 215) rfl ?_
        rintro _ h9 L9 ⟨⟨f9, rfl, K9, A9, F9⟩, -⟩
        show Go p l e room_1 s m #[.int x0, .int x1, .int x2, .int x3] below meth c Z "com/example/llave/llave/policy/ObjectiveOfPinLaw" n0 _ (EnW s room_1 n0 Z consts_1 (fun v _ => v = some (.int 1))) _ _ _ 215 #[.val (.int x0), .val (.int x1), .val (.int x2), .val (.int x3), .val (.int (x0 &&& (3 : Int32))), .val (.int (x3 &&& 255)), .val (.int (0 : Int32)), .val .null, .val .null, .unset, .unset, .unset, .unset, .unset, .unset] [(.ref f9)]
        refine Go.aconstNull C at_215 (pc' := 216) rfl ?_
        refine Go.callV C at_216 (hw _ (List.mem_of_getElem? (i := 112) rfl)) (hw _ (List.mem_of_getElem? (i := 113) rfl)) (hw _ (List.mem_of_getElem? (i := 115) rfl)) (hw _ (List.mem_of_getElem? (i := 114) rfl)) (fun st hZ => notFace_of_selects (args := #[]) (mvT hZ (hw _ (List.mem_of_getElem? (i := 115) rfl)))) (by decide) A9 (argsL := [.null]) (rest := []) rfl (lenOf pd__Ljava_lang_Object__Ljava_lang_Object_ rfl) rfl (W := 0) (Nat.le_of_ble_eq_true rfl) (Ct.pay (rm_els l Z a0 hw f9 .null h9 n0 F9 (Or.inl rfl)) (hw _ (List.mem_of_getElem? (i := 116) rfl)) (hw _ (List.mem_of_getElem? (i := 81) rfl)) (by decide) (by decide)) (fun _ _ _ q => q.2) (by decide) (by decide) (fun _ _ _ _ q b => by obtain ⟨⟨_, rfl⟩, _⟩ := q; exact b) (pc' := 219) rfl ?_
        rintro _ _ L10 ⟨⟨rfl, rfl⟩, -⟩
        show Go p l e room_1 s m #[.int x0, .int x1, .int x2, .int x3] below meth c Z "com/example/llave/llave/policy/ObjectiveOfPinLaw" n0 _ (EnW s room_1 n0 Z consts_1 (fun v _ => v = some (.int 1))) _ _ _ 219 #[.val (.int x0), .val (.int x1), .val (.int x2), .val (.int x3), .val (.int (x0 &&& (3 : Int32))), .val (.int (x3 &&& 255)), .val (.int (0 : Int32)), .val .null, .val .null, .unset, .unset, .unset, .unset, .unset, .unset] [.null]
        refine Go.castNull C at_219 (pc' := 222) rfl ?_
        refine Go.astore C at_222 rfl (L' := #[.val (.int x0), .val (.int x1), .val (.int x2), .val (.int x3), .val (.int (x0 &&& (3 : Int32))), .val (.int (x3 &&& 255)), .val (.int (0 : Int32)), .val .null, .val .null, .val .null, .unset, .unset, .unset, .unset, .unset]) rfl (pc' := 224) rfl ?_
        refine Go.aload C at_224 rfl rfl (pc' := 226) rfl ?_
        refine Go.aload C at_226 rfl rfl (pc' := 228) rfl ?_
        refine Go.acmp_ne_f C at_228 rfl rfl rfl (by decide) (pc' := 231) rfl ?_
        refine Go.iconst C at_231 (v := 1) rfl (pc' := 232) rfl ?_
        refine Go.goto C at_232 (by decide) (pc' := 236) (by decide) ?_
        refine Go.retNW C hEL (by simp) at_236 (by decide) (by decide) ?_
        exact rfl
  · refine Go.iconst C at_21 (v := 1) rfl (pc' := 22) rfl ?_
    refine Go.goto C at_22 (by decide) (pc' := 26) (by decide) ?_
    refine Go.istore C at_26 (L' := #[.val (.int x0), .val (.int x1), .val (.int x2), .val (.int x3), .val (.int (x0 &&& (3 : Int32))), .val (.int (x3 &&& (255 : Int32)).toUInt32.toUInt16.toUInt32.toInt32), .val (.int (1 : Int32)), .unset, .unset, .unset, .unset, .unset, .unset, .unset, .unset]) rfl (pc' := 28) rfl ?_
    rw [i2c_mask]
    show Go p l e room_1 s m #[.int x0, .int x1, .int x2, .int x3] below meth c Z "com/example/llave/llave/policy/ObjectiveOfPinLaw" n0 _ (EnW s room_1 n0 Z consts_1 (fun v _ => v = some (.int 1))) _ _ _ 28 #[.val (.int x0), .val (.int x1), .val (.int x2), .val (.int x3), .val (.int (x0 &&& (3 : Int32))), .val (.int (x3 &&& 255)), .val (.int (1 : Int32)), .unset, .unset, .unset, .unset, .unset, .unset, .unset, .unset] []
    refine Go.iload C at_28 rfl (pc' := 30) rfl ?_
    refine Go.iconst C at_30 (v := 3) rfl (pc' := 31) rfl ?_
    refine Go.icmp_ne C at_31 (by decide) (pc1 := 56) (by decide) (pc2 := 34) rfl (fun h3 => ?_) (fun h3 => ?_)
    · refine Go.iload C at_56 rfl (pc' := 58) rfl ?_
      refine Go.if_ne C at_58 (by decide) (pc1 := 73) (by decide) (pc2 := 61) rfl (fun h0k => ?_) (fun h0k => ?_)
      · refine Go.iload C at_73 rfl (pc' := 75) rfl ?_
        refine Go.iconst C at_75 (v := 1) rfl (pc' := 76) rfl ?_
        refine Go.icmp_ne C at_76 (by decide) (pc1 := 91) (by decide) (pc2 := 79) rfl (fun h1k => ?_) (fun h1k => ?_)
        · refine Go.ldcW C at_91 (hw _ (List.mem_of_getElem? (i := 119) rfl)) own_sa hEL (by decide) (vs := (((own_W 2) : List Int32).map fun c => c.toInt8.toInt32).map Value.int) (z := 12) (n := 48) ⟨by decide, by decide⟩ (by decide) (by decide) (by decide) (by decide) (by decide) (by decide) (pc' := 93) rfl ?_
          intro h1 la lb lk X1 A1 C1 V1 Y1 N1
          have S1 : Str Z h1 la lb lk (own_W 2) := ⟨A1, C1, V1, Y1, by decide, by decide⟩
          have O1 := O0.ext X1
          have Z1 := Nat.le_trans Z0 X1.1
          refine Go.astore C at_93 rfl (L' := #[.val (.int x0), .val (.int x1), .val (.int x2), .val (.int x3), .val (.int (x0 &&& (3 : Int32))), .val (.int (x3 &&& 255)), .val (.int (1 : Int32)), .unset, .unset, .val (.ref la), .unset, .unset, .unset, .unset, .unset]) rfl (pc' := 95) rfl ?_
          refine Go.getS C at_95 (hw _ (List.mem_of_getElem? (i := 120) rfl)) Via.refl ((Gs.2.2).ext O1.2) (pc' := 98) rfl ?_
          refine Go.astore C at_98 rfl (L' := #[.val (.int x0), .val (.int x1), .val (.int x2), .val (.int x3), .val (.int (x0 &&& (3 : Int32))), .val (.int (x3 &&& 255)), .val (.int (1 : Int32)), .unset, .unset, .val (.ref la), .val (.ref (T.2.2.1 2)), .unset, .unset, .unset, .unset]) rfl (pc' := 100) rfl ?_
          refine Go.iloadN C at_100 rfl (pc' := 101) rfl ?_
          refine Go.ldcInt C at_101 (hw _ (List.mem_of_getElem? (i := 11) rfl)) (pc' := 103) rfl ?_
          refine Go.iand C at_103 (pc' := 104) rfl ?_
          refine Go.iconst C at_104 (v := 3) rfl (pc' := 105) rfl ?_
          refine Go.irem C at_105 (by decide) (pc' := 106) rfl ?_
          rcases own_rem3 x1 with ed | ed | ed
          · rw [ed]
            show Go p l e room_1 s m #[.int x0, .int x1, .int x2, .int x3] below meth c Z "com/example/llave/llave/policy/ObjectiveOfPinLaw" n0 _ (EnW s room_1 n0 Z consts_1 (fun v _ => v = some (.int 1))) _ _ _ 106 #[.val (.int x0), .val (.int x1), .val (.int x2), .val (.int x3), .val (.int (x0 &&& (3 : Int32))), .val (.int (x3 &&& 255)), .val (.int (1 : Int32)), .unset, .unset, .val (.ref la), .val (.ref (T.2.2.1 2)), .unset, .unset, .unset, .unset] [(.int (0 : Int32))]
            refine Go.iconst C at_106 (v := 1) rfl (pc' := 107) rfl ?_
            refine Go.isub C at_107 (pc' := 108) rfl ?_
            show Go p l e room_1 s m #[.int x0, .int x1, .int x2, .int x3] below meth c Z "com/example/llave/llave/policy/ObjectiveOfPinLaw" n0 _ (EnW s room_1 n0 Z consts_1 (fun v _ => v = some (.int 1))) _ _ _ 108 #[.val (.int x0), .val (.int x1), .val (.int x2), .val (.int x3), .val (.int (x0 &&& (3 : Int32))), .val (.int (x3 &&& 255)), .val (.int (1 : Int32)), .unset, .unset, .val (.ref la), .val (.ref (T.2.2.1 2)), .unset, .unset, .unset, .unset] [(.int (-1 : Int32))]
            refine Go.istore C at_108 (L' := #[.val (.int x0), .val (.int x1), .val (.int x2), .val (.int x3), .val (.int (x0 &&& (3 : Int32))), .val (.int (x3 &&& 255)), .val (.int (1 : Int32)), .unset, .unset, .val (.ref la), .val (.ref (T.2.2.1 2)), .val (.int (-1 : Int32)), .unset, .unset, .unset]) rfl (pc' := 110) rfl ?_
            refine Go.aload C at_110 rfl rfl (pc' := 112) rfl ?_
            refine Go.callV C at_112 (hw _ (List.mem_of_getElem? (i := 12) rfl)) (hw _ (List.mem_of_getElem? (i := 13) rfl)) (hw _ (List.mem_of_getElem? (i := 15) rfl)) (hw _ (List.mem_of_getElem? (i := 14) rfl)) (fun st hZ => notFace_of_selects (args := #[]) (mvT hZ (hw _ (List.mem_of_getElem? (i := 15) rfl)))) (by decide) S1.1 (argsL := []) (rest := []) rfl (lenOf pd___I rfl) rfl (W := 0) (Nat.le_of_ble_eq_true rfl) (own_lenP hw S1 (St.ext O1.2) hz (by decide) (by decide)) (fun _ _ _ q => q.2) (by decide) (by decide) (fun _ _ _ _ q b => by obtain ⟨⟨_, rfl⟩, _⟩ := q; exact b) (pc' := 115) rfl ?_
            rintro _ _ L1 ⟨⟨rfl, rfl⟩, -⟩
            show Go p l e room_1 s m #[.int x0, .int x1, .int x2, .int x3] below meth c Z "com/example/llave/llave/policy/ObjectiveOfPinLaw" n0 _ (EnW s room_1 n0 Z consts_1 (fun v _ => v = some (.int 1))) _ _ _ 115 #[.val (.int x0), .val (.int x1), .val (.int x2), .val (.int x3), .val (.int (x0 &&& (3 : Int32))), .val (.int (x3 &&& 255)), .val (.int (1 : Int32)), .unset, .unset, .val (.ref la), .val (.ref (T.2.2.1 2)), .val (.int (-1 : Int32)), .unset, .unset, .unset] [(.int (12 : Int32))]
            refine Go.iload C at_115 rfl (pc' := 117) rfl ?_
            refine Go.iadd C at_117 (pc' := 118) rfl ?_
            show Go p l e room_1 s m #[.int x0, .int x1, .int x2, .int x3] below meth c Z "com/example/llave/llave/policy/ObjectiveOfPinLaw" n0 _ (EnW s room_1 n0 Z consts_1 (fun v _ => v = some (.int 1))) _ _ _ 118 #[.val (.int x0), .val (.int x1), .val (.int x2), .val (.int x3), .val (.int (x0 &&& (3 : Int32))), .val (.int (x3 &&& 255)), .val (.int (1 : Int32)), .unset, .unset, .val (.ref la), .val (.ref (T.2.2.1 2)), .val (.int (-1 : Int32)), .unset, .unset, .unset] [(.int (11 : Int32))]
            refine Go.istore C at_118 (L' := #[.val (.int x0), .val (.int x1), .val (.int x2), .val (.int x3), .val (.int (x0 &&& (3 : Int32))), .val (.int (x3 &&& 255)), .val (.int (1 : Int32)), .unset, .unset, .val (.ref la), .val (.ref (T.2.2.1 2)), .val (.int (-1 : Int32)), .val (.int (11 : Int32)), .unset, .unset]) rfl (pc' := 120) rfl ?_
            refine Go.iloadN C at_120 rfl (pc' := 121) rfl ?_
            refine Go.ldcInt C at_121 (hw _ (List.mem_of_getElem? (i := 11) rfl)) (pc' := 123) rfl ?_
            refine Go.iand C at_123 (pc' := 124) rfl ?_
            refine Go.iload C at_124 rfl (pc' := 126) rfl ?_
            refine Go.irem C at_126 (by decide) (pc' := 127) rfl ?_
            obtain ⟨P, hP, eP⟩ := own_rem 11 (by decide) (by decide) x2 11 rfl
            rw [eP]
            show Go p l e room_1 s m #[.int x0, .int x1, .int x2, .int x3] below meth c Z "com/example/llave/llave/policy/ObjectiveOfPinLaw" n0 _ (EnW s room_1 n0 Z consts_1 (fun v _ => v = some (.int 1))) _ _ _ 127 #[.val (.int x0), .val (.int x1), .val (.int x2), .val (.int x3), .val (.int (x0 &&& (3 : Int32))), .val (.int (x3 &&& 255)), .val (.int (1 : Int32)), .unset, .unset, .val (.ref la), .val (.ref (T.2.2.1 2)), .val (.int (-1 : Int32)), .val (.int (11 : Int32)), .unset, .unset] [(.int (Int32.ofNat P))]
            refine Go.istore C at_127 (L' := #[.val (.int x0), .val (.int x1), .val (.int x2), .val (.int x3), .val (.int (x0 &&& (3 : Int32))), .val (.int (x3 &&& 255)), .val (.int (1 : Int32)), .unset, .unset, .val (.ref la), .val (.ref (T.2.2.1 2)), .val (.int (-1 : Int32)), .val (.int (11 : Int32)), .val (.int (Int32.ofNat P)), .unset]) rfl (pc' := 129) rfl ?_
            refine Go.iload C at_129 rfl (pc' := 131) rfl ?_
            refine Go.if_eq_f C at_131 (by decide) (pc' := 134) rfl ?_
            refine Go.aload C at_134 rfl rfl (pc' := 136) rfl ?_
            refine Go.iload C at_136 rfl (pc' := 138) rfl ?_
            refine Go.iload C at_138 rfl (pc' := 140) rfl ?_
            refine Go.iload C at_140 rfl (pc' := 142) rfl ?_
            show Go p l e room_1 s m #[.int x0, .int x1, .int x2, .int x3] below meth c Z "com/example/llave/llave/policy/ObjectiveOfPinLaw" n0 _ (EnW s room_1 n0 Z consts_1 (fun v _ => v = some (.int 1))) h1 _ _ 142 #[.val (.int x0), .val (.int x1), .val (.int x2), .val (.int x3), .val (.int (x0 &&& (3 : Int32))), .val (.int (x3 &&& 255)), .val (.int (1 : Int32)), .unset, .unset, .val (.ref la), .val (.ref (T.2.2.1 2)), .val (.int (-1 : Int32)), .val (.int (11 : Int32)), .val (.int (Int32.ofNat P)), .unset] [(.int (x3 &&& 255)), (.int (Int32.ofNat P)), (.int (Int32.ofNat 11)), (.ref la)]
            refine Go.callS C at_142 (hw _ (List.mem_of_getElem? (i := 121) rfl)) (hw _ (List.mem_of_getElem? (i := 122) rfl)) (hw _ (List.mem_of_getElem? (i := 27) rfl)) (hw _ (List.mem_of_getElem? (i := 123) rfl)) (by decide) (argsL := [(.ref la), (.int (Int32.ofNat 11)), (.int (Int32.ofNat P)), (.int (x3 &&& 255))]) (rest := []) rfl (lenOf pd__Ljava_lang_String_IIC_Ljava_lang_String_ rfl) rfl (W := 0) (Nat.le_of_ble_eq_true rfl) (Ct.pay (rm_mutate l Z a0 hw la lb lk (own_W 2) 11 P x3 z fm h1 n0 Z1 S1 (by decide) (by decide) hP (by decide) St hz Fm rf O1) (hw _ (List.mem_of_getElem? (i := 123) rfl)) (hw _ (List.mem_of_getElem? (i := 27) rfl)) (by decide) (by decide)) (fun _ _ _ q => q.2) (by decide) (by decide) (fun _ _ _ _ q b => by obtain ⟨⟨_, _, _, _, K, _⟩, _⟩ := q; exact Bw.keep K (by simp) b) (pc' := 145) rfl ?_
            rintro _ h2 L2 ⟨⟨sa, ta, ks, rfl, K2, S2⟩, -⟩
            show Go p l e room_1 s m #[.int x0, .int x1, .int x2, .int x3] below meth c Z "com/example/llave/llave/policy/ObjectiveOfPinLaw" n0 _ (EnW s room_1 n0 Z consts_1 (fun v _ => v = some (.int 1))) _ _ _ 145 #[.val (.int x0), .val (.int x1), .val (.int x2), .val (.int x3), .val (.int (x0 &&& (3 : Int32))), .val (.int (x3 &&& 255)), .val (.int (1 : Int32)), .unset, .unset, .val (.ref la), .val (.ref (T.2.2.1 2)), .val (.int (-1 : Int32)), .val (.int (11 : Int32)), .val (.int (Int32.ofNat P)), .unset] [(.ref sa)]
            have O2 := O1.keep K2 all0
            have Z2 := Nat.le_trans Z1 K2.1
            have S1' := S1.keep K2 nin0 nin0
            refine Go.astore C at_145 rfl (L' := #[.val (.int x0), .val (.int x1), .val (.int x2), .val (.int x3), .val (.int (x0 &&& (3 : Int32))), .val (.int (x3 &&& 255)), .val (.int (1 : Int32)), .val (.ref sa), .unset, .val (.ref la), .val (.ref (T.2.2.1 2)), .val (.int (-1 : Int32)), .val (.int (11 : Int32)), .val (.int (Int32.ofNat P)), .unset]) rfl (pc' := 147) rfl ?_
            refine Go.iload C at_147 rfl (pc' := 149) rfl ?_
            refine Go.if_ne_t C at_149 (by decide) (by decide) (pc' := 168) (by decide) ?_
            refine Go.iconst C at_168 (v := 0) rfl (pc' := 169) rfl ?_
            refine Go.istore C at_169 (L' := #[.val (.int x0), .val (.int x1), .val (.int x2), .val (.int x3), .val (.int (x0 &&& (3 : Int32))), .val (.int (x3 &&& 255)), .val (.int (1 : Int32)), .val (.ref sa), .unset, .val (.ref la), .val (.ref (T.2.2.1 2)), .val (.int (-1 : Int32)), .val (.int (11 : Int32)), .val (.int (Int32.ofNat P)), .val (.int (0 : Int32))]) rfl (pc' := 171) rfl ?_
            refine Go.goto C at_171 (by decide) (pc' := 197) (by decide) ?_
            refine Go.iload C at_197 rfl (pc' := 199) rfl ?_
            refine Go.if_eq_t C at_199 (by decide) (by decide) (pc' := 207) (by decide) ?_
            refine Go.aconstNull C at_207 (pc' := 208) rfl ?_
            refine Go.astore C at_208 rfl (L' := #[.val (.int x0), .val (.int x1), .val (.int x2), .val (.int x3), .val (.int (x0 &&& (3 : Int32))), .val (.int (x3 &&& 255)), .val (.int (1 : Int32)), .val (.ref sa), .val .null, .val (.ref la), .val (.ref (T.2.2.1 2)), .val (.int (-1 : Int32)), .val (.int (11 : Int32)), .val (.int (Int32.ofNat P)), .val (.int (0 : Int32))]) rfl (pc' := 210) rfl ?_
            refine Go.aload C at_210 rfl rfl (pc' := 212) rfl ?_
            refine Go.callS C at_212 (hw _ (List.mem_of_getElem? (i := 76) rfl)) (hw _ (List.mem_of_getElem? (i := 77) rfl)) (hw _ (List.mem_of_getElem? (i := 9) rfl)) (hw _ (List.mem_of_getElem? (i := 78) rfl)) (by decide) (argsL := [(.ref sa)]) (rest := []) rfl (lenOf pd__Ljava_lang_String__Ljava_util_Optional_ rfl) rfl (W := 0) (Nat.le_of_ble_eq_true rfl) (Ct.pay (rm_ofs l Z a0 hw sa ta ks ((own_fill (own_W 2) (x3 &&& 255) 11 16).set P (x3 &&& 255)) T z h2 n0 Z2 O2 GT St hz S2) (hw _ (List.mem_of_getElem? (i := 78) rfl)) (hw _ (List.mem_of_getElem? (i := 9) rfl)) (by decide) (by decide)) (fun _ _ _ q => q.2) (by decide) (by decide) (fun _ _ _ _ q b => by obtain ⟨⟨_, _, K, _⟩, _⟩ := q; exact Bw.keep K (by simp) b) (pc' := 215) rfl ?_
            rintro _ h9 L9 ⟨⟨f9, rfl, K9, A9, F9⟩, -⟩
            show Go p l e room_1 s m #[.int x0, .int x1, .int x2, .int x3] below meth c Z "com/example/llave/llave/policy/ObjectiveOfPinLaw" n0 _ (EnW s room_1 n0 Z consts_1 (fun v _ => v = some (.int 1))) _ _ _ 215 #[.val (.int x0), .val (.int x1), .val (.int x2), .val (.int x3), .val (.int (x0 &&& (3 : Int32))), .val (.int (x3 &&& 255)), .val (.int (1 : Int32)), .val (.ref sa), .val .null, .val (.ref la), .val (.ref (T.2.2.1 2)), .val (.int (-1 : Int32)), .val (.int (11 : Int32)), .val (.int (Int32.ofNat P)), .val (.int (0 : Int32))] [(.ref f9)]
            rw [own_none T.2.2.1 ((own_fill (own_W 2) (x3 &&& 255) 11 16).set P (x3 &&& 255)) (by simp [own_len])] at F9
            refine Go.aconstNull C at_215 (pc' := 216) rfl ?_
            refine Go.callV C at_216 (hw _ (List.mem_of_getElem? (i := 112) rfl)) (hw _ (List.mem_of_getElem? (i := 113) rfl)) (hw _ (List.mem_of_getElem? (i := 115) rfl)) (hw _ (List.mem_of_getElem? (i := 114) rfl)) (fun st hZ => notFace_of_selects (args := #[]) (mvT hZ (hw _ (List.mem_of_getElem? (i := 115) rfl)))) (by decide) A9 (argsL := [.null]) (rest := []) rfl (lenOf pd__Ljava_lang_Object__Ljava_lang_Object_ rfl) rfl (W := 0) (Nat.le_of_ble_eq_true rfl) (Ct.pay (rm_els l Z a0 hw f9 .null h9 n0 F9 (Or.inl rfl)) (hw _ (List.mem_of_getElem? (i := 116) rfl)) (hw _ (List.mem_of_getElem? (i := 81) rfl)) (by decide) (by decide)) (fun _ _ _ q => q.2) (by decide) (by decide) (fun _ _ _ _ q b => by obtain ⟨⟨_, rfl⟩, _⟩ := q; exact b) (pc' := 219) rfl ?_
            rintro _ _ L10 ⟨⟨rfl, rfl⟩, -⟩
            show Go p l e room_1 s m #[.int x0, .int x1, .int x2, .int x3] below meth c Z "com/example/llave/llave/policy/ObjectiveOfPinLaw" n0 _ (EnW s room_1 n0 Z consts_1 (fun v _ => v = some (.int 1))) _ _ _ 219 #[.val (.int x0), .val (.int x1), .val (.int x2), .val (.int x3), .val (.int (x0 &&& (3 : Int32))), .val (.int (x3 &&& 255)), .val (.int (1 : Int32)), .val (.ref sa), .val .null, .val (.ref la), .val (.ref (T.2.2.1 2)), .val (.int (-1 : Int32)), .val (.int (11 : Int32)), .val (.int (Int32.ofNat P)), .val (.int (0 : Int32))] [.null]
            refine Go.castNull C at_219 (pc' := 222) rfl ?_
            refine Go.astore C at_222 rfl (L' := #[.val (.int x0), .val (.int x1), .val (.int x2), .val (.int x3), .val (.int (x0 &&& (3 : Int32))), .val (.int (x3 &&& 255)), .val (.int (1 : Int32)), .val (.ref sa), .val .null, .val .null, .val (.ref (T.2.2.1 2)), .val (.int (-1 : Int32)), .val (.int (11 : Int32)), .val (.int (Int32.ofNat P)), .val (.int (0 : Int32))]) rfl (pc' := 224) rfl ?_
            refine Go.aload C at_224 rfl rfl (pc' := 226) rfl ?_
            refine Go.aload C at_226 rfl rfl (pc' := 228) rfl ?_
            refine Go.acmp_ne_f C at_228 rfl rfl rfl (by decide) (pc' := 231) rfl ?_
            refine Go.iconst C at_231 (v := 1) rfl (pc' := 232) rfl ?_
            refine Go.goto C at_232 (by decide) (pc' := 236) (by decide) ?_
            refine Go.retNW C hEL (by simp) at_236 (by decide) (by decide) ?_
            exact rfl
          · rw [ed]
            show Go p l e room_1 s m #[.int x0, .int x1, .int x2, .int x3] below meth c Z "com/example/llave/llave/policy/ObjectiveOfPinLaw" n0 _ (EnW s room_1 n0 Z consts_1 (fun v _ => v = some (.int 1))) _ _ _ 106 #[.val (.int x0), .val (.int x1), .val (.int x2), .val (.int x3), .val (.int (x0 &&& (3 : Int32))), .val (.int (x3 &&& 255)), .val (.int (1 : Int32)), .unset, .unset, .val (.ref la), .val (.ref (T.2.2.1 2)), .unset, .unset, .unset, .unset] [(.int (1 : Int32))]
            refine Go.iconst C at_106 (v := 1) rfl (pc' := 107) rfl ?_
            refine Go.isub C at_107 (pc' := 108) rfl ?_
            show Go p l e room_1 s m #[.int x0, .int x1, .int x2, .int x3] below meth c Z "com/example/llave/llave/policy/ObjectiveOfPinLaw" n0 _ (EnW s room_1 n0 Z consts_1 (fun v _ => v = some (.int 1))) _ _ _ 108 #[.val (.int x0), .val (.int x1), .val (.int x2), .val (.int x3), .val (.int (x0 &&& (3 : Int32))), .val (.int (x3 &&& 255)), .val (.int (1 : Int32)), .unset, .unset, .val (.ref la), .val (.ref (T.2.2.1 2)), .unset, .unset, .unset, .unset] [(.int (0 : Int32))]
            refine Go.istore C at_108 (L' := #[.val (.int x0), .val (.int x1), .val (.int x2), .val (.int x3), .val (.int (x0 &&& (3 : Int32))), .val (.int (x3 &&& 255)), .val (.int (1 : Int32)), .unset, .unset, .val (.ref la), .val (.ref (T.2.2.1 2)), .val (.int (0 : Int32)), .unset, .unset, .unset]) rfl (pc' := 110) rfl ?_
            refine Go.aload C at_110 rfl rfl (pc' := 112) rfl ?_
            refine Go.callV C at_112 (hw _ (List.mem_of_getElem? (i := 12) rfl)) (hw _ (List.mem_of_getElem? (i := 13) rfl)) (hw _ (List.mem_of_getElem? (i := 15) rfl)) (hw _ (List.mem_of_getElem? (i := 14) rfl)) (fun st hZ => notFace_of_selects (args := #[]) (mvT hZ (hw _ (List.mem_of_getElem? (i := 15) rfl)))) (by decide) S1.1 (argsL := []) (rest := []) rfl (lenOf pd___I rfl) rfl (W := 0) (Nat.le_of_ble_eq_true rfl) (own_lenP hw S1 (St.ext O1.2) hz (by decide) (by decide)) (fun _ _ _ q => q.2) (by decide) (by decide) (fun _ _ _ _ q b => by obtain ⟨⟨_, rfl⟩, _⟩ := q; exact b) (pc' := 115) rfl ?_
            rintro _ _ L1 ⟨⟨rfl, rfl⟩, -⟩
            show Go p l e room_1 s m #[.int x0, .int x1, .int x2, .int x3] below meth c Z "com/example/llave/llave/policy/ObjectiveOfPinLaw" n0 _ (EnW s room_1 n0 Z consts_1 (fun v _ => v = some (.int 1))) _ _ _ 115 #[.val (.int x0), .val (.int x1), .val (.int x2), .val (.int x3), .val (.int (x0 &&& (3 : Int32))), .val (.int (x3 &&& 255)), .val (.int (1 : Int32)), .unset, .unset, .val (.ref la), .val (.ref (T.2.2.1 2)), .val (.int (0 : Int32)), .unset, .unset, .unset] [(.int (12 : Int32))]
            refine Go.iload C at_115 rfl (pc' := 117) rfl ?_
            refine Go.iadd C at_117 (pc' := 118) rfl ?_
            show Go p l e room_1 s m #[.int x0, .int x1, .int x2, .int x3] below meth c Z "com/example/llave/llave/policy/ObjectiveOfPinLaw" n0 _ (EnW s room_1 n0 Z consts_1 (fun v _ => v = some (.int 1))) _ _ _ 118 #[.val (.int x0), .val (.int x1), .val (.int x2), .val (.int x3), .val (.int (x0 &&& (3 : Int32))), .val (.int (x3 &&& 255)), .val (.int (1 : Int32)), .unset, .unset, .val (.ref la), .val (.ref (T.2.2.1 2)), .val (.int (0 : Int32)), .unset, .unset, .unset] [(.int (12 : Int32))]
            refine Go.istore C at_118 (L' := #[.val (.int x0), .val (.int x1), .val (.int x2), .val (.int x3), .val (.int (x0 &&& (3 : Int32))), .val (.int (x3 &&& 255)), .val (.int (1 : Int32)), .unset, .unset, .val (.ref la), .val (.ref (T.2.2.1 2)), .val (.int (0 : Int32)), .val (.int (12 : Int32)), .unset, .unset]) rfl (pc' := 120) rfl ?_
            refine Go.iloadN C at_120 rfl (pc' := 121) rfl ?_
            refine Go.ldcInt C at_121 (hw _ (List.mem_of_getElem? (i := 11) rfl)) (pc' := 123) rfl ?_
            refine Go.iand C at_123 (pc' := 124) rfl ?_
            refine Go.iload C at_124 rfl (pc' := 126) rfl ?_
            refine Go.irem C at_126 (by decide) (pc' := 127) rfl ?_
            obtain ⟨P, hP, eP⟩ := own_rem 12 (by decide) (by decide) x2 12 rfl
            rw [eP]
            show Go p l e room_1 s m #[.int x0, .int x1, .int x2, .int x3] below meth c Z "com/example/llave/llave/policy/ObjectiveOfPinLaw" n0 _ (EnW s room_1 n0 Z consts_1 (fun v _ => v = some (.int 1))) _ _ _ 127 #[.val (.int x0), .val (.int x1), .val (.int x2), .val (.int x3), .val (.int (x0 &&& (3 : Int32))), .val (.int (x3 &&& 255)), .val (.int (1 : Int32)), .unset, .unset, .val (.ref la), .val (.ref (T.2.2.1 2)), .val (.int (0 : Int32)), .val (.int (12 : Int32)), .unset, .unset] [(.int (Int32.ofNat P))]
            refine Go.istore C at_127 (L' := #[.val (.int x0), .val (.int x1), .val (.int x2), .val (.int x3), .val (.int (x0 &&& (3 : Int32))), .val (.int (x3 &&& 255)), .val (.int (1 : Int32)), .unset, .unset, .val (.ref la), .val (.ref (T.2.2.1 2)), .val (.int (0 : Int32)), .val (.int (12 : Int32)), .val (.int (Int32.ofNat P)), .unset]) rfl (pc' := 129) rfl ?_
            refine Go.iload C at_129 rfl (pc' := 131) rfl ?_
            refine Go.if_eq_f C at_131 (by decide) (pc' := 134) rfl ?_
            refine Go.aload C at_134 rfl rfl (pc' := 136) rfl ?_
            refine Go.iload C at_136 rfl (pc' := 138) rfl ?_
            refine Go.iload C at_138 rfl (pc' := 140) rfl ?_
            refine Go.iload C at_140 rfl (pc' := 142) rfl ?_
            show Go p l e room_1 s m #[.int x0, .int x1, .int x2, .int x3] below meth c Z "com/example/llave/llave/policy/ObjectiveOfPinLaw" n0 _ (EnW s room_1 n0 Z consts_1 (fun v _ => v = some (.int 1))) h1 _ _ 142 #[.val (.int x0), .val (.int x1), .val (.int x2), .val (.int x3), .val (.int (x0 &&& (3 : Int32))), .val (.int (x3 &&& 255)), .val (.int (1 : Int32)), .unset, .unset, .val (.ref la), .val (.ref (T.2.2.1 2)), .val (.int (0 : Int32)), .val (.int (12 : Int32)), .val (.int (Int32.ofNat P)), .unset] [(.int (x3 &&& 255)), (.int (Int32.ofNat P)), (.int (Int32.ofNat 12)), (.ref la)]
            refine Go.callS C at_142 (hw _ (List.mem_of_getElem? (i := 121) rfl)) (hw _ (List.mem_of_getElem? (i := 122) rfl)) (hw _ (List.mem_of_getElem? (i := 27) rfl)) (hw _ (List.mem_of_getElem? (i := 123) rfl)) (by decide) (argsL := [(.ref la), (.int (Int32.ofNat 12)), (.int (Int32.ofNat P)), (.int (x3 &&& 255))]) (rest := []) rfl (lenOf pd__Ljava_lang_String_IIC_Ljava_lang_String_ rfl) rfl (W := 0) (Nat.le_of_ble_eq_true rfl) (Ct.pay (rm_mutate l Z a0 hw la lb lk (own_W 2) 12 P x3 z fm h1 n0 Z1 S1 (by decide) (by decide) hP (by decide) St hz Fm rf O1) (hw _ (List.mem_of_getElem? (i := 123) rfl)) (hw _ (List.mem_of_getElem? (i := 27) rfl)) (by decide) (by decide)) (fun _ _ _ q => q.2) (by decide) (by decide) (fun _ _ _ _ q b => by obtain ⟨⟨_, _, _, _, K, _⟩, _⟩ := q; exact Bw.keep K (by simp) b) (pc' := 145) rfl ?_
            rintro _ h2 L2 ⟨⟨sa, ta, ks, rfl, K2, S2⟩, -⟩
            show Go p l e room_1 s m #[.int x0, .int x1, .int x2, .int x3] below meth c Z "com/example/llave/llave/policy/ObjectiveOfPinLaw" n0 _ (EnW s room_1 n0 Z consts_1 (fun v _ => v = some (.int 1))) _ _ _ 145 #[.val (.int x0), .val (.int x1), .val (.int x2), .val (.int x3), .val (.int (x0 &&& (3 : Int32))), .val (.int (x3 &&& 255)), .val (.int (1 : Int32)), .unset, .unset, .val (.ref la), .val (.ref (T.2.2.1 2)), .val (.int (0 : Int32)), .val (.int (12 : Int32)), .val (.int (Int32.ofNat P)), .unset] [(.ref sa)]
            have O2 := O1.keep K2 all0
            have Z2 := Nat.le_trans Z1 K2.1
            have S1' := S1.keep K2 nin0 nin0
            refine Go.astore C at_145 rfl (L' := #[.val (.int x0), .val (.int x1), .val (.int x2), .val (.int x3), .val (.int (x0 &&& (3 : Int32))), .val (.int (x3 &&& 255)), .val (.int (1 : Int32)), .val (.ref sa), .unset, .val (.ref la), .val (.ref (T.2.2.1 2)), .val (.int (0 : Int32)), .val (.int (12 : Int32)), .val (.int (Int32.ofNat P)), .unset]) rfl (pc' := 147) rfl ?_
            refine Go.iload C at_147 rfl (pc' := 149) rfl ?_
            refine Go.if_ne_f C at_149 (by decide) (pc' := 152) rfl ?_
            refine Go.iload C at_152 rfl (pc' := 154) rfl ?_
            refine Go.aload C at_154 rfl rfl (pc' := 156) rfl ?_
            refine Go.iload C at_156 rfl (pc' := 158) rfl ?_
            refine Go.callV C at_158 (hw _ (List.mem_of_getElem? (i := 33) rfl)) (hw _ (List.mem_of_getElem? (i := 34) rfl)) (hw _ (List.mem_of_getElem? (i := 36) rfl)) (hw _ (List.mem_of_getElem? (i := 35) rfl)) (fun st hZ => notFace_of_selects (args := #[]) (mvT hZ (hw _ (List.mem_of_getElem? (i := 36) rfl)))) (by decide) S1'.1 (argsL := [(.int (Int32.ofNat P))]) (rest := [(.int (x3 &&& 255))]) rfl (lenOf pd__I_C rfl) rfl (W := 1) (Nat.le_of_ble_eq_true rfl) (own_chP hw S1' (St.ext O2.2) hz (Fm.ext O2.2) rf (i := P) hP rfl (by decide) (by decide)) (fun _ _ _ q => q.2) (by decide) (by decide) (fun _ _ _ _ q b => by obtain ⟨⟨_, rfl⟩, _⟩ := q; exact b) (pc' := 161) rfl ?_
            rintro _ _ L3 ⟨⟨rfl, rfl⟩, -⟩
            show Go p l e room_1 s m #[.int x0, .int x1, .int x2, .int x3] below meth c Z "com/example/llave/llave/policy/ObjectiveOfPinLaw" n0 _ (EnW s room_1 n0 Z consts_1 (fun v _ => v = some (.int 1))) _ _ _ 161 #[.val (.int x0), .val (.int x1), .val (.int x2), .val (.int x3), .val (.int (x0 &&& (3 : Int32))), .val (.int (x3 &&& 255)), .val (.int (1 : Int32)), .val (.ref sa), .unset, .val (.ref la), .val (.ref (T.2.2.1 2)), .val (.int (0 : Int32)), .val (.int (12 : Int32)), .val (.int (Int32.ofNat P)), .unset] [(.int ((own_W 2).getD P 0)), (.int (x3 &&& 255))]
            refine Go.icmp_ne C at_161 (by decide) (pc1 := 168) (by decide) (pc2 := 164) rfl (fun hm => ?_) (fun hm => ?_)
            · refine Go.iconst C at_168 (v := 0) rfl (pc' := 169) rfl ?_
              refine Go.istore C at_169 (L' := #[.val (.int x0), .val (.int x1), .val (.int x2), .val (.int x3), .val (.int (x0 &&& (3 : Int32))), .val (.int (x3 &&& 255)), .val (.int (1 : Int32)), .val (.ref sa), .unset, .val (.ref la), .val (.ref (T.2.2.1 2)), .val (.int (0 : Int32)), .val (.int (12 : Int32)), .val (.int (Int32.ofNat P)), .val (.int (0 : Int32))]) rfl (pc' := 171) rfl ?_
              refine Go.goto C at_171 (by decide) (pc' := 197) (by decide) ?_
              refine Go.iload C at_197 rfl (pc' := 199) rfl ?_
              refine Go.if_eq_t C at_199 (by decide) (by decide) (pc' := 207) (by decide) ?_
              refine Go.aconstNull C at_207 (pc' := 208) rfl ?_
              refine Go.astore C at_208 rfl (L' := #[.val (.int x0), .val (.int x1), .val (.int x2), .val (.int x3), .val (.int (x0 &&& (3 : Int32))), .val (.int (x3 &&& 255)), .val (.int (1 : Int32)), .val (.ref sa), .val .null, .val (.ref la), .val (.ref (T.2.2.1 2)), .val (.int (0 : Int32)), .val (.int (12 : Int32)), .val (.int (Int32.ofNat P)), .val (.int (0 : Int32))]) rfl (pc' := 210) rfl ?_
              refine Go.aload C at_210 rfl rfl (pc' := 212) rfl ?_
              refine Go.callS C at_212 (hw _ (List.mem_of_getElem? (i := 76) rfl)) (hw _ (List.mem_of_getElem? (i := 77) rfl)) (hw _ (List.mem_of_getElem? (i := 9) rfl)) (hw _ (List.mem_of_getElem? (i := 78) rfl)) (by decide) (argsL := [(.ref sa)]) (rest := []) rfl (lenOf pd__Ljava_lang_String__Ljava_util_Optional_ rfl) rfl (W := 0) (Nat.le_of_ble_eq_true rfl) (Ct.pay (rm_ofs l Z a0 hw sa ta ks ((own_fill (own_W 2) (x3 &&& 255) 12 16).set P (x3 &&& 255)) T z h2 n0 Z2 O2 GT St hz S2) (hw _ (List.mem_of_getElem? (i := 78) rfl)) (hw _ (List.mem_of_getElem? (i := 9) rfl)) (by decide) (by decide)) (fun _ _ _ q => q.2) (by decide) (by decide) (fun _ _ _ _ q b => by obtain ⟨⟨_, _, K, _⟩, _⟩ := q; exact Bw.keep K (by simp) b) (pc' := 215) rfl ?_
              rintro _ h9 L9 ⟨⟨f9, rfl, K9, A9, F9⟩, -⟩
              show Go p l e room_1 s m #[.int x0, .int x1, .int x2, .int x3] below meth c Z "com/example/llave/llave/policy/ObjectiveOfPinLaw" n0 _ (EnW s room_1 n0 Z consts_1 (fun v _ => v = some (.int 1))) _ _ _ 215 #[.val (.int x0), .val (.int x1), .val (.int x2), .val (.int x3), .val (.int (x0 &&& (3 : Int32))), .val (.int (x3 &&& 255)), .val (.int (1 : Int32)), .val (.ref sa), .val .null, .val (.ref la), .val (.ref (T.2.2.1 2)), .val (.int (0 : Int32)), .val (.int (12 : Int32)), .val (.int (Int32.ofNat P)), .val (.int (0 : Int32))] [(.ref f9)]
              rw [own_miss2 T.2.2.1 hP hm] at F9
              refine Go.aconstNull C at_215 (pc' := 216) rfl ?_
              refine Go.callV C at_216 (hw _ (List.mem_of_getElem? (i := 112) rfl)) (hw _ (List.mem_of_getElem? (i := 113) rfl)) (hw _ (List.mem_of_getElem? (i := 115) rfl)) (hw _ (List.mem_of_getElem? (i := 114) rfl)) (fun st hZ => notFace_of_selects (args := #[]) (mvT hZ (hw _ (List.mem_of_getElem? (i := 115) rfl)))) (by decide) A9 (argsL := [.null]) (rest := []) rfl (lenOf pd__Ljava_lang_Object__Ljava_lang_Object_ rfl) rfl (W := 0) (Nat.le_of_ble_eq_true rfl) (Ct.pay (rm_els l Z a0 hw f9 .null h9 n0 F9 (Or.inl rfl)) (hw _ (List.mem_of_getElem? (i := 116) rfl)) (hw _ (List.mem_of_getElem? (i := 81) rfl)) (by decide) (by decide)) (fun _ _ _ q => q.2) (by decide) (by decide) (fun _ _ _ _ q b => by obtain ⟨⟨_, rfl⟩, _⟩ := q; exact b) (pc' := 219) rfl ?_
              rintro _ _ L10 ⟨⟨rfl, rfl⟩, -⟩
              show Go p l e room_1 s m #[.int x0, .int x1, .int x2, .int x3] below meth c Z "com/example/llave/llave/policy/ObjectiveOfPinLaw" n0 _ (EnW s room_1 n0 Z consts_1 (fun v _ => v = some (.int 1))) _ _ _ 219 #[.val (.int x0), .val (.int x1), .val (.int x2), .val (.int x3), .val (.int (x0 &&& (3 : Int32))), .val (.int (x3 &&& 255)), .val (.int (1 : Int32)), .val (.ref sa), .val .null, .val (.ref la), .val (.ref (T.2.2.1 2)), .val (.int (0 : Int32)), .val (.int (12 : Int32)), .val (.int (Int32.ofNat P)), .val (.int (0 : Int32))] [.null]
              refine Go.castNull C at_219 (pc' := 222) rfl ?_
              refine Go.astore C at_222 rfl (L' := #[.val (.int x0), .val (.int x1), .val (.int x2), .val (.int x3), .val (.int (x0 &&& (3 : Int32))), .val (.int (x3 &&& 255)), .val (.int (1 : Int32)), .val (.ref sa), .val .null, .val .null, .val (.ref (T.2.2.1 2)), .val (.int (0 : Int32)), .val (.int (12 : Int32)), .val (.int (Int32.ofNat P)), .val (.int (0 : Int32))]) rfl (pc' := 224) rfl ?_
              refine Go.aload C at_224 rfl rfl (pc' := 226) rfl ?_
              refine Go.aload C at_226 rfl rfl (pc' := 228) rfl ?_
              refine Go.acmp_ne_f C at_228 rfl rfl rfl (by decide) (pc' := 231) rfl ?_
              refine Go.iconst C at_231 (v := 1) rfl (pc' := 232) rfl ?_
              refine Go.goto C at_232 (by decide) (pc' := 236) (by decide) ?_
              refine Go.retNW C hEL (by simp) at_236 (by decide) (by decide) ?_
              exact rfl
            · refine Go.iconst C at_164 (v := 1) rfl (pc' := 165) rfl ?_
              refine Go.goto C at_165 (by decide) (pc' := 169) (by decide) ?_
              refine Go.istore C at_169 (L' := #[.val (.int x0), .val (.int x1), .val (.int x2), .val (.int x3), .val (.int (x0 &&& (3 : Int32))), .val (.int (x3 &&& 255)), .val (.int (1 : Int32)), .val (.ref sa), .unset, .val (.ref la), .val (.ref (T.2.2.1 2)), .val (.int (0 : Int32)), .val (.int (12 : Int32)), .val (.int (Int32.ofNat P)), .val (.int (1 : Int32))]) rfl (pc' := 171) rfl ?_
              refine Go.goto C at_171 (by decide) (pc' := 197) (by decide) ?_
              refine Go.iload C at_197 rfl (pc' := 199) rfl ?_
              refine Go.if_eq_f C at_199 (by decide) (pc' := 202) rfl ?_
              refine Go.aload C at_202 rfl rfl (pc' := 204) rfl ?_
              refine Go.goto C at_204 (by decide) (pc' := 208) (by decide) ?_
              refine Go.astore C at_208 rfl (L' := #[.val (.int x0), .val (.int x1), .val (.int x2), .val (.int x3), .val (.int (x0 &&& (3 : Int32))), .val (.int (x3 &&& 255)), .val (.int (1 : Int32)), .val (.ref sa), .val (.ref (T.2.2.1 2)), .val (.ref la), .val (.ref (T.2.2.1 2)), .val (.int (0 : Int32)), .val (.int (12 : Int32)), .val (.int (Int32.ofNat P)), .val (.int (1 : Int32))]) rfl (pc' := 210) rfl ?_
              refine Go.aload C at_210 rfl rfl (pc' := 212) rfl ?_
              refine Go.callS C at_212 (hw _ (List.mem_of_getElem? (i := 76) rfl)) (hw _ (List.mem_of_getElem? (i := 77) rfl)) (hw _ (List.mem_of_getElem? (i := 9) rfl)) (hw _ (List.mem_of_getElem? (i := 78) rfl)) (by decide) (argsL := [(.ref sa)]) (rest := []) rfl (lenOf pd__Ljava_lang_String__Ljava_util_Optional_ rfl) rfl (W := 0) (Nat.le_of_ble_eq_true rfl) (Ct.pay (rm_ofs l Z a0 hw sa ta ks ((own_fill (own_W 2) (x3 &&& 255) 12 16).set P (x3 &&& 255)) T z h2 n0 Z2 O2 GT St hz S2) (hw _ (List.mem_of_getElem? (i := 78) rfl)) (hw _ (List.mem_of_getElem? (i := 9) rfl)) (by decide) (by decide)) (fun _ _ _ q => q.2) (by decide) (by decide) (fun _ _ _ _ q b => by obtain ⟨⟨_, _, K, _⟩, _⟩ := q; exact Bw.keep K (by simp) b) (pc' := 215) rfl ?_
              rintro _ h9 L9 ⟨⟨f9, rfl, K9, A9, F9⟩, -⟩
              show Go p l e room_1 s m #[.int x0, .int x1, .int x2, .int x3] below meth c Z "com/example/llave/llave/policy/ObjectiveOfPinLaw" n0 _ (EnW s room_1 n0 Z consts_1 (fun v _ => v = some (.int 1))) _ _ _ 215 #[.val (.int x0), .val (.int x1), .val (.int x2), .val (.int x3), .val (.int (x0 &&& (3 : Int32))), .val (.int (x3 &&& 255)), .val (.int (1 : Int32)), .val (.ref sa), .val (.ref (T.2.2.1 2)), .val (.ref la), .val (.ref (T.2.2.1 2)), .val (.int (0 : Int32)), .val (.int (12 : Int32)), .val (.int (Int32.ofNat P)), .val (.int (1 : Int32))] [(.ref f9)]
              rw [own_hit2 T.2.2.1 hP hm] at F9
              refine Go.aconstNull C at_215 (pc' := 216) rfl ?_
              refine Go.callV C at_216 (hw _ (List.mem_of_getElem? (i := 112) rfl)) (hw _ (List.mem_of_getElem? (i := 113) rfl)) (hw _ (List.mem_of_getElem? (i := 115) rfl)) (hw _ (List.mem_of_getElem? (i := 114) rfl)) (fun st hZ => notFace_of_selects (args := #[]) (mvT hZ (hw _ (List.mem_of_getElem? (i := 115) rfl)))) (by decide) A9 (argsL := [.null]) (rest := []) rfl (lenOf pd__Ljava_lang_Object__Ljava_lang_Object_ rfl) rfl (W := 0) (Nat.le_of_ble_eq_true rfl) (Ct.pay (rm_els l Z a0 hw f9 (.ref (T.2.2.1 2)) h9 n0 F9 (Or.inr ⟨_, rfl⟩)) (hw _ (List.mem_of_getElem? (i := 116) rfl)) (hw _ (List.mem_of_getElem? (i := 81) rfl)) (by decide) (by decide)) (fun _ _ _ q => q.2) (by decide) (by decide) (fun _ _ _ _ q b => by obtain ⟨⟨_, rfl⟩, _⟩ := q; exact b) (pc' := 219) rfl ?_
              rintro _ _ L10 ⟨⟨rfl, rfl⟩, -⟩
              show Go p l e room_1 s m #[.int x0, .int x1, .int x2, .int x3] below meth c Z "com/example/llave/llave/policy/ObjectiveOfPinLaw" n0 _ (EnW s room_1 n0 Z consts_1 (fun v _ => v = some (.int 1))) _ _ _ 219 #[.val (.int x0), .val (.int x1), .val (.int x2), .val (.int x3), .val (.int (x0 &&& (3 : Int32))), .val (.int (x3 &&& 255)), .val (.int (1 : Int32)), .val (.ref sa), .val (.ref (T.2.2.1 2)), .val (.ref la), .val (.ref (T.2.2.1 2)), .val (.int (0 : Int32)), .val (.int (12 : Int32)), .val (.int (Int32.ofNat P)), .val (.int (1 : Int32))] [(.ref (T.2.2.1 2))]
              refine Go.castY C at_219 (hw _ (List.mem_of_getElem? (i := 141) rfl)) (Ins.self (((Gj 2).1.ext O2.2).keep K9)) (pc' := 222) rfl ?_
              refine Go.astore C at_222 rfl (L' := #[.val (.int x0), .val (.int x1), .val (.int x2), .val (.int x3), .val (.int (x0 &&& (3 : Int32))), .val (.int (x3 &&& 255)), .val (.int (1 : Int32)), .val (.ref sa), .val (.ref (T.2.2.1 2)), .val (.ref (T.2.2.1 2)), .val (.ref (T.2.2.1 2)), .val (.int (0 : Int32)), .val (.int (12 : Int32)), .val (.int (Int32.ofNat P)), .val (.int (1 : Int32))]) rfl (pc' := 224) rfl ?_
              refine Go.aload C at_224 rfl rfl (pc' := 226) rfl ?_
              refine Go.aload C at_226 rfl rfl (pc' := 228) rfl ?_
              refine Go.acmp_ne_f C at_228 rfl rfl rfl (by decide) (pc' := 231) rfl ?_
              refine Go.iconst C at_231 (v := 1) rfl (pc' := 232) rfl ?_
              refine Go.goto C at_232 (by decide) (pc' := 236) (by decide) ?_
              refine Go.retNW C hEL (by simp) at_236 (by decide) (by decide) ?_
              exact rfl
          · rw [ed]
            show Go p l e room_1 s m #[.int x0, .int x1, .int x2, .int x3] below meth c Z "com/example/llave/llave/policy/ObjectiveOfPinLaw" n0 _ (EnW s room_1 n0 Z consts_1 (fun v _ => v = some (.int 1))) _ _ _ 106 #[.val (.int x0), .val (.int x1), .val (.int x2), .val (.int x3), .val (.int (x0 &&& (3 : Int32))), .val (.int (x3 &&& 255)), .val (.int (1 : Int32)), .unset, .unset, .val (.ref la), .val (.ref (T.2.2.1 2)), .unset, .unset, .unset, .unset] [(.int (2 : Int32))]
            refine Go.iconst C at_106 (v := 1) rfl (pc' := 107) rfl ?_
            refine Go.isub C at_107 (pc' := 108) rfl ?_
            show Go p l e room_1 s m #[.int x0, .int x1, .int x2, .int x3] below meth c Z "com/example/llave/llave/policy/ObjectiveOfPinLaw" n0 _ (EnW s room_1 n0 Z consts_1 (fun v _ => v = some (.int 1))) _ _ _ 108 #[.val (.int x0), .val (.int x1), .val (.int x2), .val (.int x3), .val (.int (x0 &&& (3 : Int32))), .val (.int (x3 &&& 255)), .val (.int (1 : Int32)), .unset, .unset, .val (.ref la), .val (.ref (T.2.2.1 2)), .unset, .unset, .unset, .unset] [(.int (1 : Int32))]
            refine Go.istore C at_108 (L' := #[.val (.int x0), .val (.int x1), .val (.int x2), .val (.int x3), .val (.int (x0 &&& (3 : Int32))), .val (.int (x3 &&& 255)), .val (.int (1 : Int32)), .unset, .unset, .val (.ref la), .val (.ref (T.2.2.1 2)), .val (.int (1 : Int32)), .unset, .unset, .unset]) rfl (pc' := 110) rfl ?_
            refine Go.aload C at_110 rfl rfl (pc' := 112) rfl ?_
            refine Go.callV C at_112 (hw _ (List.mem_of_getElem? (i := 12) rfl)) (hw _ (List.mem_of_getElem? (i := 13) rfl)) (hw _ (List.mem_of_getElem? (i := 15) rfl)) (hw _ (List.mem_of_getElem? (i := 14) rfl)) (fun st hZ => notFace_of_selects (args := #[]) (mvT hZ (hw _ (List.mem_of_getElem? (i := 15) rfl)))) (by decide) S1.1 (argsL := []) (rest := []) rfl (lenOf pd___I rfl) rfl (W := 0) (Nat.le_of_ble_eq_true rfl) (own_lenP hw S1 (St.ext O1.2) hz (by decide) (by decide)) (fun _ _ _ q => q.2) (by decide) (by decide) (fun _ _ _ _ q b => by obtain ⟨⟨_, rfl⟩, _⟩ := q; exact b) (pc' := 115) rfl ?_
            rintro _ _ L1 ⟨⟨rfl, rfl⟩, -⟩
            show Go p l e room_1 s m #[.int x0, .int x1, .int x2, .int x3] below meth c Z "com/example/llave/llave/policy/ObjectiveOfPinLaw" n0 _ (EnW s room_1 n0 Z consts_1 (fun v _ => v = some (.int 1))) _ _ _ 115 #[.val (.int x0), .val (.int x1), .val (.int x2), .val (.int x3), .val (.int (x0 &&& (3 : Int32))), .val (.int (x3 &&& 255)), .val (.int (1 : Int32)), .unset, .unset, .val (.ref la), .val (.ref (T.2.2.1 2)), .val (.int (1 : Int32)), .unset, .unset, .unset] [(.int (12 : Int32))]
            refine Go.iload C at_115 rfl (pc' := 117) rfl ?_
            refine Go.iadd C at_117 (pc' := 118) rfl ?_
            show Go p l e room_1 s m #[.int x0, .int x1, .int x2, .int x3] below meth c Z "com/example/llave/llave/policy/ObjectiveOfPinLaw" n0 _ (EnW s room_1 n0 Z consts_1 (fun v _ => v = some (.int 1))) _ _ _ 118 #[.val (.int x0), .val (.int x1), .val (.int x2), .val (.int x3), .val (.int (x0 &&& (3 : Int32))), .val (.int (x3 &&& 255)), .val (.int (1 : Int32)), .unset, .unset, .val (.ref la), .val (.ref (T.2.2.1 2)), .val (.int (1 : Int32)), .unset, .unset, .unset] [(.int (13 : Int32))]
            refine Go.istore C at_118 (L' := #[.val (.int x0), .val (.int x1), .val (.int x2), .val (.int x3), .val (.int (x0 &&& (3 : Int32))), .val (.int (x3 &&& 255)), .val (.int (1 : Int32)), .unset, .unset, .val (.ref la), .val (.ref (T.2.2.1 2)), .val (.int (1 : Int32)), .val (.int (13 : Int32)), .unset, .unset]) rfl (pc' := 120) rfl ?_
            refine Go.iloadN C at_120 rfl (pc' := 121) rfl ?_
            refine Go.ldcInt C at_121 (hw _ (List.mem_of_getElem? (i := 11) rfl)) (pc' := 123) rfl ?_
            refine Go.iand C at_123 (pc' := 124) rfl ?_
            refine Go.iload C at_124 rfl (pc' := 126) rfl ?_
            refine Go.irem C at_126 (by decide) (pc' := 127) rfl ?_
            obtain ⟨P, hP, eP⟩ := own_rem 13 (by decide) (by decide) x2 13 rfl
            rw [eP]
            show Go p l e room_1 s m #[.int x0, .int x1, .int x2, .int x3] below meth c Z "com/example/llave/llave/policy/ObjectiveOfPinLaw" n0 _ (EnW s room_1 n0 Z consts_1 (fun v _ => v = some (.int 1))) _ _ _ 127 #[.val (.int x0), .val (.int x1), .val (.int x2), .val (.int x3), .val (.int (x0 &&& (3 : Int32))), .val (.int (x3 &&& 255)), .val (.int (1 : Int32)), .unset, .unset, .val (.ref la), .val (.ref (T.2.2.1 2)), .val (.int (1 : Int32)), .val (.int (13 : Int32)), .unset, .unset] [(.int (Int32.ofNat P))]
            refine Go.istore C at_127 (L' := #[.val (.int x0), .val (.int x1), .val (.int x2), .val (.int x3), .val (.int (x0 &&& (3 : Int32))), .val (.int (x3 &&& 255)), .val (.int (1 : Int32)), .unset, .unset, .val (.ref la), .val (.ref (T.2.2.1 2)), .val (.int (1 : Int32)), .val (.int (13 : Int32)), .val (.int (Int32.ofNat P)), .unset]) rfl (pc' := 129) rfl ?_
            refine Go.iload C at_129 rfl (pc' := 131) rfl ?_
            refine Go.if_eq_f C at_131 (by decide) (pc' := 134) rfl ?_
            refine Go.aload C at_134 rfl rfl (pc' := 136) rfl ?_
            refine Go.iload C at_136 rfl (pc' := 138) rfl ?_
            refine Go.iload C at_138 rfl (pc' := 140) rfl ?_
            refine Go.iload C at_140 rfl (pc' := 142) rfl ?_
            show Go p l e room_1 s m #[.int x0, .int x1, .int x2, .int x3] below meth c Z "com/example/llave/llave/policy/ObjectiveOfPinLaw" n0 _ (EnW s room_1 n0 Z consts_1 (fun v _ => v = some (.int 1))) h1 _ _ 142 #[.val (.int x0), .val (.int x1), .val (.int x2), .val (.int x3), .val (.int (x0 &&& (3 : Int32))), .val (.int (x3 &&& 255)), .val (.int (1 : Int32)), .unset, .unset, .val (.ref la), .val (.ref (T.2.2.1 2)), .val (.int (1 : Int32)), .val (.int (13 : Int32)), .val (.int (Int32.ofNat P)), .unset] [(.int (x3 &&& 255)), (.int (Int32.ofNat P)), (.int (Int32.ofNat 13)), (.ref la)]
            refine Go.callS C at_142 (hw _ (List.mem_of_getElem? (i := 121) rfl)) (hw _ (List.mem_of_getElem? (i := 122) rfl)) (hw _ (List.mem_of_getElem? (i := 27) rfl)) (hw _ (List.mem_of_getElem? (i := 123) rfl)) (by decide) (argsL := [(.ref la), (.int (Int32.ofNat 13)), (.int (Int32.ofNat P)), (.int (x3 &&& 255))]) (rest := []) rfl (lenOf pd__Ljava_lang_String_IIC_Ljava_lang_String_ rfl) rfl (W := 0) (Nat.le_of_ble_eq_true rfl) (Ct.pay (rm_mutate l Z a0 hw la lb lk (own_W 2) 13 P x3 z fm h1 n0 Z1 S1 (by decide) (by decide) hP (by decide) St hz Fm rf O1) (hw _ (List.mem_of_getElem? (i := 123) rfl)) (hw _ (List.mem_of_getElem? (i := 27) rfl)) (by decide) (by decide)) (fun _ _ _ q => q.2) (by decide) (by decide) (fun _ _ _ _ q b => by obtain ⟨⟨_, _, _, _, K, _⟩, _⟩ := q; exact Bw.keep K (by simp) b) (pc' := 145) rfl ?_
            rintro _ h2 L2 ⟨⟨sa, ta, ks, rfl, K2, S2⟩, -⟩
            show Go p l e room_1 s m #[.int x0, .int x1, .int x2, .int x3] below meth c Z "com/example/llave/llave/policy/ObjectiveOfPinLaw" n0 _ (EnW s room_1 n0 Z consts_1 (fun v _ => v = some (.int 1))) _ _ _ 145 #[.val (.int x0), .val (.int x1), .val (.int x2), .val (.int x3), .val (.int (x0 &&& (3 : Int32))), .val (.int (x3 &&& 255)), .val (.int (1 : Int32)), .unset, .unset, .val (.ref la), .val (.ref (T.2.2.1 2)), .val (.int (1 : Int32)), .val (.int (13 : Int32)), .val (.int (Int32.ofNat P)), .unset] [(.ref sa)]
            have O2 := O1.keep K2 all0
            have Z2 := Nat.le_trans Z1 K2.1
            have S1' := S1.keep K2 nin0 nin0
            refine Go.astore C at_145 rfl (L' := #[.val (.int x0), .val (.int x1), .val (.int x2), .val (.int x3), .val (.int (x0 &&& (3 : Int32))), .val (.int (x3 &&& 255)), .val (.int (1 : Int32)), .val (.ref sa), .unset, .val (.ref la), .val (.ref (T.2.2.1 2)), .val (.int (1 : Int32)), .val (.int (13 : Int32)), .val (.int (Int32.ofNat P)), .unset]) rfl (pc' := 147) rfl ?_
            refine Go.iload C at_147 rfl (pc' := 149) rfl ?_
            refine Go.if_ne_t C at_149 (by decide) (by decide) (pc' := 168) (by decide) ?_
            refine Go.iconst C at_168 (v := 0) rfl (pc' := 169) rfl ?_
            refine Go.istore C at_169 (L' := #[.val (.int x0), .val (.int x1), .val (.int x2), .val (.int x3), .val (.int (x0 &&& (3 : Int32))), .val (.int (x3 &&& 255)), .val (.int (1 : Int32)), .val (.ref sa), .unset, .val (.ref la), .val (.ref (T.2.2.1 2)), .val (.int (1 : Int32)), .val (.int (13 : Int32)), .val (.int (Int32.ofNat P)), .val (.int (0 : Int32))]) rfl (pc' := 171) rfl ?_
            refine Go.goto C at_171 (by decide) (pc' := 197) (by decide) ?_
            refine Go.iload C at_197 rfl (pc' := 199) rfl ?_
            refine Go.if_eq_t C at_199 (by decide) (by decide) (pc' := 207) (by decide) ?_
            refine Go.aconstNull C at_207 (pc' := 208) rfl ?_
            refine Go.astore C at_208 rfl (L' := #[.val (.int x0), .val (.int x1), .val (.int x2), .val (.int x3), .val (.int (x0 &&& (3 : Int32))), .val (.int (x3 &&& 255)), .val (.int (1 : Int32)), .val (.ref sa), .val .null, .val (.ref la), .val (.ref (T.2.2.1 2)), .val (.int (1 : Int32)), .val (.int (13 : Int32)), .val (.int (Int32.ofNat P)), .val (.int (0 : Int32))]) rfl (pc' := 210) rfl ?_
            refine Go.aload C at_210 rfl rfl (pc' := 212) rfl ?_
            refine Go.callS C at_212 (hw _ (List.mem_of_getElem? (i := 76) rfl)) (hw _ (List.mem_of_getElem? (i := 77) rfl)) (hw _ (List.mem_of_getElem? (i := 9) rfl)) (hw _ (List.mem_of_getElem? (i := 78) rfl)) (by decide) (argsL := [(.ref sa)]) (rest := []) rfl (lenOf pd__Ljava_lang_String__Ljava_util_Optional_ rfl) rfl (W := 0) (Nat.le_of_ble_eq_true rfl) (Ct.pay (rm_ofs l Z a0 hw sa ta ks ((own_fill (own_W 2) (x3 &&& 255) 13 16).set P (x3 &&& 255)) T z h2 n0 Z2 O2 GT St hz S2) (hw _ (List.mem_of_getElem? (i := 78) rfl)) (hw _ (List.mem_of_getElem? (i := 9) rfl)) (by decide) (by decide)) (fun _ _ _ q => q.2) (by decide) (by decide) (fun _ _ _ _ q b => by obtain ⟨⟨_, _, K, _⟩, _⟩ := q; exact Bw.keep K (by simp) b) (pc' := 215) rfl ?_
            rintro _ h9 L9 ⟨⟨f9, rfl, K9, A9, F9⟩, -⟩
            show Go p l e room_1 s m #[.int x0, .int x1, .int x2, .int x3] below meth c Z "com/example/llave/llave/policy/ObjectiveOfPinLaw" n0 _ (EnW s room_1 n0 Z consts_1 (fun v _ => v = some (.int 1))) _ _ _ 215 #[.val (.int x0), .val (.int x1), .val (.int x2), .val (.int x3), .val (.int (x0 &&& (3 : Int32))), .val (.int (x3 &&& 255)), .val (.int (1 : Int32)), .val (.ref sa), .val .null, .val (.ref la), .val (.ref (T.2.2.1 2)), .val (.int (1 : Int32)), .val (.int (13 : Int32)), .val (.int (Int32.ofNat P)), .val (.int (0 : Int32))] [(.ref f9)]
            rw [own_none T.2.2.1 ((own_fill (own_W 2) (x3 &&& 255) 13 16).set P (x3 &&& 255)) (by simp [own_len])] at F9
            refine Go.aconstNull C at_215 (pc' := 216) rfl ?_
            refine Go.callV C at_216 (hw _ (List.mem_of_getElem? (i := 112) rfl)) (hw _ (List.mem_of_getElem? (i := 113) rfl)) (hw _ (List.mem_of_getElem? (i := 115) rfl)) (hw _ (List.mem_of_getElem? (i := 114) rfl)) (fun st hZ => notFace_of_selects (args := #[]) (mvT hZ (hw _ (List.mem_of_getElem? (i := 115) rfl)))) (by decide) A9 (argsL := [.null]) (rest := []) rfl (lenOf pd__Ljava_lang_Object__Ljava_lang_Object_ rfl) rfl (W := 0) (Nat.le_of_ble_eq_true rfl) (Ct.pay (rm_els l Z a0 hw f9 .null h9 n0 F9 (Or.inl rfl)) (hw _ (List.mem_of_getElem? (i := 116) rfl)) (hw _ (List.mem_of_getElem? (i := 81) rfl)) (by decide) (by decide)) (fun _ _ _ q => q.2) (by decide) (by decide) (fun _ _ _ _ q b => by obtain ⟨⟨_, rfl⟩, _⟩ := q; exact b) (pc' := 219) rfl ?_
            rintro _ _ L10 ⟨⟨rfl, rfl⟩, -⟩
            show Go p l e room_1 s m #[.int x0, .int x1, .int x2, .int x3] below meth c Z "com/example/llave/llave/policy/ObjectiveOfPinLaw" n0 _ (EnW s room_1 n0 Z consts_1 (fun v _ => v = some (.int 1))) _ _ _ 219 #[.val (.int x0), .val (.int x1), .val (.int x2), .val (.int x3), .val (.int (x0 &&& (3 : Int32))), .val (.int (x3 &&& 255)), .val (.int (1 : Int32)), .val (.ref sa), .val .null, .val (.ref la), .val (.ref (T.2.2.1 2)), .val (.int (1 : Int32)), .val (.int (13 : Int32)), .val (.int (Int32.ofNat P)), .val (.int (0 : Int32))] [.null]
            refine Go.castNull C at_219 (pc' := 222) rfl ?_
            refine Go.astore C at_222 rfl (L' := #[.val (.int x0), .val (.int x1), .val (.int x2), .val (.int x3), .val (.int (x0 &&& (3 : Int32))), .val (.int (x3 &&& 255)), .val (.int (1 : Int32)), .val (.ref sa), .val .null, .val .null, .val (.ref (T.2.2.1 2)), .val (.int (1 : Int32)), .val (.int (13 : Int32)), .val (.int (Int32.ofNat P)), .val (.int (0 : Int32))]) rfl (pc' := 224) rfl ?_
            refine Go.aload C at_224 rfl rfl (pc' := 226) rfl ?_
            refine Go.aload C at_226 rfl rfl (pc' := 228) rfl ?_
            refine Go.acmp_ne_f C at_228 rfl rfl rfl (by decide) (pc' := 231) rfl ?_
            refine Go.iconst C at_231 (v := 1) rfl (pc' := 232) rfl ?_
            refine Go.goto C at_232 (by decide) (pc' := 236) (by decide) ?_
            refine Go.retNW C hEL (by simp) at_236 (by decide) (by decide) ?_
            exact rfl
        · refine Go.ldcW C at_79 (hw _ (List.mem_of_getElem? (i := 124) rfl)) own_sa hEL (by decide) (vs := (((own_W 1) : List Int32).map fun c => c.toInt8.toInt32).map Value.int) (z := 9) (n := 36) ⟨by decide, by decide⟩ (by decide) (by decide) (by decide) (by decide) (by decide) (by decide) (pc' := 81) rfl ?_
          intro h1 la lb lk X1 A1 C1 V1 Y1 N1
          have S1 : Str Z h1 la lb lk (own_W 1) := ⟨A1, C1, V1, Y1, by decide, by decide⟩
          have O1 := O0.ext X1
          have Z1 := Nat.le_trans Z0 X1.1
          refine Go.astore C at_81 rfl (L' := #[.val (.int x0), .val (.int x1), .val (.int x2), .val (.int x3), .val (.int (x0 &&& (3 : Int32))), .val (.int (x3 &&& 255)), .val (.int (1 : Int32)), .unset, .unset, .val (.ref la), .unset, .unset, .unset, .unset, .unset]) rfl (pc' := 83) rfl ?_
          refine Go.getS C at_83 (hw _ (List.mem_of_getElem? (i := 125) rfl)) Via.refl ((Gs.2.1).ext O1.2) (pc' := 86) rfl ?_
          refine Go.astore C at_86 rfl (L' := #[.val (.int x0), .val (.int x1), .val (.int x2), .val (.int x3), .val (.int (x0 &&& (3 : Int32))), .val (.int (x3 &&& 255)), .val (.int (1 : Int32)), .unset, .unset, .val (.ref la), .val (.ref (T.2.2.1 1)), .unset, .unset, .unset, .unset]) rfl (pc' := 88) rfl ?_
          refine Go.goto C at_88 (by decide) (pc' := 100) (by decide) ?_
          refine Go.iloadN C at_100 rfl (pc' := 101) rfl ?_
          refine Go.ldcInt C at_101 (hw _ (List.mem_of_getElem? (i := 11) rfl)) (pc' := 103) rfl ?_
          refine Go.iand C at_103 (pc' := 104) rfl ?_
          refine Go.iconst C at_104 (v := 3) rfl (pc' := 105) rfl ?_
          refine Go.irem C at_105 (by decide) (pc' := 106) rfl ?_
          rcases own_rem3 x1 with ed | ed | ed
          · rw [ed]
            show Go p l e room_1 s m #[.int x0, .int x1, .int x2, .int x3] below meth c Z "com/example/llave/llave/policy/ObjectiveOfPinLaw" n0 _ (EnW s room_1 n0 Z consts_1 (fun v _ => v = some (.int 1))) _ _ _ 106 #[.val (.int x0), .val (.int x1), .val (.int x2), .val (.int x3), .val (.int (x0 &&& (3 : Int32))), .val (.int (x3 &&& 255)), .val (.int (1 : Int32)), .unset, .unset, .val (.ref la), .val (.ref (T.2.2.1 1)), .unset, .unset, .unset, .unset] [(.int (0 : Int32))]
            refine Go.iconst C at_106 (v := 1) rfl (pc' := 107) rfl ?_
            refine Go.isub C at_107 (pc' := 108) rfl ?_
            show Go p l e room_1 s m #[.int x0, .int x1, .int x2, .int x3] below meth c Z "com/example/llave/llave/policy/ObjectiveOfPinLaw" n0 _ (EnW s room_1 n0 Z consts_1 (fun v _ => v = some (.int 1))) _ _ _ 108 #[.val (.int x0), .val (.int x1), .val (.int x2), .val (.int x3), .val (.int (x0 &&& (3 : Int32))), .val (.int (x3 &&& 255)), .val (.int (1 : Int32)), .unset, .unset, .val (.ref la), .val (.ref (T.2.2.1 1)), .unset, .unset, .unset, .unset] [(.int (-1 : Int32))]
            refine Go.istore C at_108 (L' := #[.val (.int x0), .val (.int x1), .val (.int x2), .val (.int x3), .val (.int (x0 &&& (3 : Int32))), .val (.int (x3 &&& 255)), .val (.int (1 : Int32)), .unset, .unset, .val (.ref la), .val (.ref (T.2.2.1 1)), .val (.int (-1 : Int32)), .unset, .unset, .unset]) rfl (pc' := 110) rfl ?_
            refine Go.aload C at_110 rfl rfl (pc' := 112) rfl ?_
            refine Go.callV C at_112 (hw _ (List.mem_of_getElem? (i := 12) rfl)) (hw _ (List.mem_of_getElem? (i := 13) rfl)) (hw _ (List.mem_of_getElem? (i := 15) rfl)) (hw _ (List.mem_of_getElem? (i := 14) rfl)) (fun st hZ => notFace_of_selects (args := #[]) (mvT hZ (hw _ (List.mem_of_getElem? (i := 15) rfl)))) (by decide) S1.1 (argsL := []) (rest := []) rfl (lenOf pd___I rfl) rfl (W := 0) (Nat.le_of_ble_eq_true rfl) (own_lenP hw S1 (St.ext O1.2) hz (by decide) (by decide)) (fun _ _ _ q => q.2) (by decide) (by decide) (fun _ _ _ _ q b => by obtain ⟨⟨_, rfl⟩, _⟩ := q; exact b) (pc' := 115) rfl ?_
            rintro _ _ L1 ⟨⟨rfl, rfl⟩, -⟩
            show Go p l e room_1 s m #[.int x0, .int x1, .int x2, .int x3] below meth c Z "com/example/llave/llave/policy/ObjectiveOfPinLaw" n0 _ (EnW s room_1 n0 Z consts_1 (fun v _ => v = some (.int 1))) _ _ _ 115 #[.val (.int x0), .val (.int x1), .val (.int x2), .val (.int x3), .val (.int (x0 &&& (3 : Int32))), .val (.int (x3 &&& 255)), .val (.int (1 : Int32)), .unset, .unset, .val (.ref la), .val (.ref (T.2.2.1 1)), .val (.int (-1 : Int32)), .unset, .unset, .unset] [(.int (9 : Int32))]
            refine Go.iload C at_115 rfl (pc' := 117) rfl ?_
            refine Go.iadd C at_117 (pc' := 118) rfl ?_
            show Go p l e room_1 s m #[.int x0, .int x1, .int x2, .int x3] below meth c Z "com/example/llave/llave/policy/ObjectiveOfPinLaw" n0 _ (EnW s room_1 n0 Z consts_1 (fun v _ => v = some (.int 1))) _ _ _ 118 #[.val (.int x0), .val (.int x1), .val (.int x2), .val (.int x3), .val (.int (x0 &&& (3 : Int32))), .val (.int (x3 &&& 255)), .val (.int (1 : Int32)), .unset, .unset, .val (.ref la), .val (.ref (T.2.2.1 1)), .val (.int (-1 : Int32)), .unset, .unset, .unset] [(.int (8 : Int32))]
            refine Go.istore C at_118 (L' := #[.val (.int x0), .val (.int x1), .val (.int x2), .val (.int x3), .val (.int (x0 &&& (3 : Int32))), .val (.int (x3 &&& 255)), .val (.int (1 : Int32)), .unset, .unset, .val (.ref la), .val (.ref (T.2.2.1 1)), .val (.int (-1 : Int32)), .val (.int (8 : Int32)), .unset, .unset]) rfl (pc' := 120) rfl ?_
            refine Go.iloadN C at_120 rfl (pc' := 121) rfl ?_
            refine Go.ldcInt C at_121 (hw _ (List.mem_of_getElem? (i := 11) rfl)) (pc' := 123) rfl ?_
            refine Go.iand C at_123 (pc' := 124) rfl ?_
            refine Go.iload C at_124 rfl (pc' := 126) rfl ?_
            refine Go.irem C at_126 (by decide) (pc' := 127) rfl ?_
            obtain ⟨P, hP, eP⟩ := own_rem 8 (by decide) (by decide) x2 8 rfl
            rw [eP]
            show Go p l e room_1 s m #[.int x0, .int x1, .int x2, .int x3] below meth c Z "com/example/llave/llave/policy/ObjectiveOfPinLaw" n0 _ (EnW s room_1 n0 Z consts_1 (fun v _ => v = some (.int 1))) _ _ _ 127 #[.val (.int x0), .val (.int x1), .val (.int x2), .val (.int x3), .val (.int (x0 &&& (3 : Int32))), .val (.int (x3 &&& 255)), .val (.int (1 : Int32)), .unset, .unset, .val (.ref la), .val (.ref (T.2.2.1 1)), .val (.int (-1 : Int32)), .val (.int (8 : Int32)), .unset, .unset] [(.int (Int32.ofNat P))]
            refine Go.istore C at_127 (L' := #[.val (.int x0), .val (.int x1), .val (.int x2), .val (.int x3), .val (.int (x0 &&& (3 : Int32))), .val (.int (x3 &&& 255)), .val (.int (1 : Int32)), .unset, .unset, .val (.ref la), .val (.ref (T.2.2.1 1)), .val (.int (-1 : Int32)), .val (.int (8 : Int32)), .val (.int (Int32.ofNat P)), .unset]) rfl (pc' := 129) rfl ?_
            refine Go.iload C at_129 rfl (pc' := 131) rfl ?_
            refine Go.if_eq_f C at_131 (by decide) (pc' := 134) rfl ?_
            refine Go.aload C at_134 rfl rfl (pc' := 136) rfl ?_
            refine Go.iload C at_136 rfl (pc' := 138) rfl ?_
            refine Go.iload C at_138 rfl (pc' := 140) rfl ?_
            refine Go.iload C at_140 rfl (pc' := 142) rfl ?_
            show Go p l e room_1 s m #[.int x0, .int x1, .int x2, .int x3] below meth c Z "com/example/llave/llave/policy/ObjectiveOfPinLaw" n0 _ (EnW s room_1 n0 Z consts_1 (fun v _ => v = some (.int 1))) h1 _ _ 142 #[.val (.int x0), .val (.int x1), .val (.int x2), .val (.int x3), .val (.int (x0 &&& (3 : Int32))), .val (.int (x3 &&& 255)), .val (.int (1 : Int32)), .unset, .unset, .val (.ref la), .val (.ref (T.2.2.1 1)), .val (.int (-1 : Int32)), .val (.int (8 : Int32)), .val (.int (Int32.ofNat P)), .unset] [(.int (x3 &&& 255)), (.int (Int32.ofNat P)), (.int (Int32.ofNat 8)), (.ref la)]
            refine Go.callS C at_142 (hw _ (List.mem_of_getElem? (i := 121) rfl)) (hw _ (List.mem_of_getElem? (i := 122) rfl)) (hw _ (List.mem_of_getElem? (i := 27) rfl)) (hw _ (List.mem_of_getElem? (i := 123) rfl)) (by decide) (argsL := [(.ref la), (.int (Int32.ofNat 8)), (.int (Int32.ofNat P)), (.int (x3 &&& 255))]) (rest := []) rfl (lenOf pd__Ljava_lang_String_IIC_Ljava_lang_String_ rfl) rfl (W := 0) (Nat.le_of_ble_eq_true rfl) (Ct.pay (rm_mutate l Z a0 hw la lb lk (own_W 1) 8 P x3 z fm h1 n0 Z1 S1 (by decide) (by decide) hP (by decide) St hz Fm rf O1) (hw _ (List.mem_of_getElem? (i := 123) rfl)) (hw _ (List.mem_of_getElem? (i := 27) rfl)) (by decide) (by decide)) (fun _ _ _ q => q.2) (by decide) (by decide) (fun _ _ _ _ q b => by obtain ⟨⟨_, _, _, _, K, _⟩, _⟩ := q; exact Bw.keep K (by simp) b) (pc' := 145) rfl ?_
            rintro _ h2 L2 ⟨⟨sa, ta, ks, rfl, K2, S2⟩, -⟩
            show Go p l e room_1 s m #[.int x0, .int x1, .int x2, .int x3] below meth c Z "com/example/llave/llave/policy/ObjectiveOfPinLaw" n0 _ (EnW s room_1 n0 Z consts_1 (fun v _ => v = some (.int 1))) _ _ _ 145 #[.val (.int x0), .val (.int x1), .val (.int x2), .val (.int x3), .val (.int (x0 &&& (3 : Int32))), .val (.int (x3 &&& 255)), .val (.int (1 : Int32)), .unset, .unset, .val (.ref la), .val (.ref (T.2.2.1 1)), .val (.int (-1 : Int32)), .val (.int (8 : Int32)), .val (.int (Int32.ofNat P)), .unset] [(.ref sa)]
            have O2 := O1.keep K2 all0
            have Z2 := Nat.le_trans Z1 K2.1
            have S1' := S1.keep K2 nin0 nin0
            refine Go.astore C at_145 rfl (L' := #[.val (.int x0), .val (.int x1), .val (.int x2), .val (.int x3), .val (.int (x0 &&& (3 : Int32))), .val (.int (x3 &&& 255)), .val (.int (1 : Int32)), .val (.ref sa), .unset, .val (.ref la), .val (.ref (T.2.2.1 1)), .val (.int (-1 : Int32)), .val (.int (8 : Int32)), .val (.int (Int32.ofNat P)), .unset]) rfl (pc' := 147) rfl ?_
            refine Go.iload C at_147 rfl (pc' := 149) rfl ?_
            refine Go.if_ne_t C at_149 (by decide) (by decide) (pc' := 168) (by decide) ?_
            refine Go.iconst C at_168 (v := 0) rfl (pc' := 169) rfl ?_
            refine Go.istore C at_169 (L' := #[.val (.int x0), .val (.int x1), .val (.int x2), .val (.int x3), .val (.int (x0 &&& (3 : Int32))), .val (.int (x3 &&& 255)), .val (.int (1 : Int32)), .val (.ref sa), .unset, .val (.ref la), .val (.ref (T.2.2.1 1)), .val (.int (-1 : Int32)), .val (.int (8 : Int32)), .val (.int (Int32.ofNat P)), .val (.int (0 : Int32))]) rfl (pc' := 171) rfl ?_
            refine Go.goto C at_171 (by decide) (pc' := 197) (by decide) ?_
            refine Go.iload C at_197 rfl (pc' := 199) rfl ?_
            refine Go.if_eq_t C at_199 (by decide) (by decide) (pc' := 207) (by decide) ?_
            refine Go.aconstNull C at_207 (pc' := 208) rfl ?_
            refine Go.astore C at_208 rfl (L' := #[.val (.int x0), .val (.int x1), .val (.int x2), .val (.int x3), .val (.int (x0 &&& (3 : Int32))), .val (.int (x3 &&& 255)), .val (.int (1 : Int32)), .val (.ref sa), .val .null, .val (.ref la), .val (.ref (T.2.2.1 1)), .val (.int (-1 : Int32)), .val (.int (8 : Int32)), .val (.int (Int32.ofNat P)), .val (.int (0 : Int32))]) rfl (pc' := 210) rfl ?_
            refine Go.aload C at_210 rfl rfl (pc' := 212) rfl ?_
            refine Go.callS C at_212 (hw _ (List.mem_of_getElem? (i := 76) rfl)) (hw _ (List.mem_of_getElem? (i := 77) rfl)) (hw _ (List.mem_of_getElem? (i := 9) rfl)) (hw _ (List.mem_of_getElem? (i := 78) rfl)) (by decide) (argsL := [(.ref sa)]) (rest := []) rfl (lenOf pd__Ljava_lang_String__Ljava_util_Optional_ rfl) rfl (W := 0) (Nat.le_of_ble_eq_true rfl) (Ct.pay (rm_ofs l Z a0 hw sa ta ks ((own_fill (own_W 1) (x3 &&& 255) 8 16).set P (x3 &&& 255)) T z h2 n0 Z2 O2 GT St hz S2) (hw _ (List.mem_of_getElem? (i := 78) rfl)) (hw _ (List.mem_of_getElem? (i := 9) rfl)) (by decide) (by decide)) (fun _ _ _ q => q.2) (by decide) (by decide) (fun _ _ _ _ q b => by obtain ⟨⟨_, _, K, _⟩, _⟩ := q; exact Bw.keep K (by simp) b) (pc' := 215) rfl ?_
            rintro _ h9 L9 ⟨⟨f9, rfl, K9, A9, F9⟩, -⟩
            show Go p l e room_1 s m #[.int x0, .int x1, .int x2, .int x3] below meth c Z "com/example/llave/llave/policy/ObjectiveOfPinLaw" n0 _ (EnW s room_1 n0 Z consts_1 (fun v _ => v = some (.int 1))) _ _ _ 215 #[.val (.int x0), .val (.int x1), .val (.int x2), .val (.int x3), .val (.int (x0 &&& (3 : Int32))), .val (.int (x3 &&& 255)), .val (.int (1 : Int32)), .val (.ref sa), .val .null, .val (.ref la), .val (.ref (T.2.2.1 1)), .val (.int (-1 : Int32)), .val (.int (8 : Int32)), .val (.int (Int32.ofNat P)), .val (.int (0 : Int32))] [(.ref f9)]
            rw [own_none T.2.2.1 ((own_fill (own_W 1) (x3 &&& 255) 8 16).set P (x3 &&& 255)) (by simp [own_len])] at F9
            refine Go.aconstNull C at_215 (pc' := 216) rfl ?_
            refine Go.callV C at_216 (hw _ (List.mem_of_getElem? (i := 112) rfl)) (hw _ (List.mem_of_getElem? (i := 113) rfl)) (hw _ (List.mem_of_getElem? (i := 115) rfl)) (hw _ (List.mem_of_getElem? (i := 114) rfl)) (fun st hZ => notFace_of_selects (args := #[]) (mvT hZ (hw _ (List.mem_of_getElem? (i := 115) rfl)))) (by decide) A9 (argsL := [.null]) (rest := []) rfl (lenOf pd__Ljava_lang_Object__Ljava_lang_Object_ rfl) rfl (W := 0) (Nat.le_of_ble_eq_true rfl) (Ct.pay (rm_els l Z a0 hw f9 .null h9 n0 F9 (Or.inl rfl)) (hw _ (List.mem_of_getElem? (i := 116) rfl)) (hw _ (List.mem_of_getElem? (i := 81) rfl)) (by decide) (by decide)) (fun _ _ _ q => q.2) (by decide) (by decide) (fun _ _ _ _ q b => by obtain ⟨⟨_, rfl⟩, _⟩ := q; exact b) (pc' := 219) rfl ?_
            rintro _ _ L10 ⟨⟨rfl, rfl⟩, -⟩
            show Go p l e room_1 s m #[.int x0, .int x1, .int x2, .int x3] below meth c Z "com/example/llave/llave/policy/ObjectiveOfPinLaw" n0 _ (EnW s room_1 n0 Z consts_1 (fun v _ => v = some (.int 1))) _ _ _ 219 #[.val (.int x0), .val (.int x1), .val (.int x2), .val (.int x3), .val (.int (x0 &&& (3 : Int32))), .val (.int (x3 &&& 255)), .val (.int (1 : Int32)), .val (.ref sa), .val .null, .val (.ref la), .val (.ref (T.2.2.1 1)), .val (.int (-1 : Int32)), .val (.int (8 : Int32)), .val (.int (Int32.ofNat P)), .val (.int (0 : Int32))] [.null]
            refine Go.castNull C at_219 (pc' := 222) rfl ?_
            refine Go.astore C at_222 rfl (L' := #[.val (.int x0), .val (.int x1), .val (.int x2), .val (.int x3), .val (.int (x0 &&& (3 : Int32))), .val (.int (x3 &&& 255)), .val (.int (1 : Int32)), .val (.ref sa), .val .null, .val .null, .val (.ref (T.2.2.1 1)), .val (.int (-1 : Int32)), .val (.int (8 : Int32)), .val (.int (Int32.ofNat P)), .val (.int (0 : Int32))]) rfl (pc' := 224) rfl ?_
            refine Go.aload C at_224 rfl rfl (pc' := 226) rfl ?_
            refine Go.aload C at_226 rfl rfl (pc' := 228) rfl ?_
            refine Go.acmp_ne_f C at_228 rfl rfl rfl (by decide) (pc' := 231) rfl ?_
            refine Go.iconst C at_231 (v := 1) rfl (pc' := 232) rfl ?_
            refine Go.goto C at_232 (by decide) (pc' := 236) (by decide) ?_
            refine Go.retNW C hEL (by simp) at_236 (by decide) (by decide) ?_
            exact rfl
          · rw [ed]
            show Go p l e room_1 s m #[.int x0, .int x1, .int x2, .int x3] below meth c Z "com/example/llave/llave/policy/ObjectiveOfPinLaw" n0 _ (EnW s room_1 n0 Z consts_1 (fun v _ => v = some (.int 1))) _ _ _ 106 #[.val (.int x0), .val (.int x1), .val (.int x2), .val (.int x3), .val (.int (x0 &&& (3 : Int32))), .val (.int (x3 &&& 255)), .val (.int (1 : Int32)), .unset, .unset, .val (.ref la), .val (.ref (T.2.2.1 1)), .unset, .unset, .unset, .unset] [(.int (1 : Int32))]
            refine Go.iconst C at_106 (v := 1) rfl (pc' := 107) rfl ?_
            refine Go.isub C at_107 (pc' := 108) rfl ?_
            show Go p l e room_1 s m #[.int x0, .int x1, .int x2, .int x3] below meth c Z "com/example/llave/llave/policy/ObjectiveOfPinLaw" n0 _ (EnW s room_1 n0 Z consts_1 (fun v _ => v = some (.int 1))) _ _ _ 108 #[.val (.int x0), .val (.int x1), .val (.int x2), .val (.int x3), .val (.int (x0 &&& (3 : Int32))), .val (.int (x3 &&& 255)), .val (.int (1 : Int32)), .unset, .unset, .val (.ref la), .val (.ref (T.2.2.1 1)), .unset, .unset, .unset, .unset] [(.int (0 : Int32))]
            refine Go.istore C at_108 (L' := #[.val (.int x0), .val (.int x1), .val (.int x2), .val (.int x3), .val (.int (x0 &&& (3 : Int32))), .val (.int (x3 &&& 255)), .val (.int (1 : Int32)), .unset, .unset, .val (.ref la), .val (.ref (T.2.2.1 1)), .val (.int (0 : Int32)), .unset, .unset, .unset]) rfl (pc' := 110) rfl ?_
            refine Go.aload C at_110 rfl rfl (pc' := 112) rfl ?_
            refine Go.callV C at_112 (hw _ (List.mem_of_getElem? (i := 12) rfl)) (hw _ (List.mem_of_getElem? (i := 13) rfl)) (hw _ (List.mem_of_getElem? (i := 15) rfl)) (hw _ (List.mem_of_getElem? (i := 14) rfl)) (fun st hZ => notFace_of_selects (args := #[]) (mvT hZ (hw _ (List.mem_of_getElem? (i := 15) rfl)))) (by decide) S1.1 (argsL := []) (rest := []) rfl (lenOf pd___I rfl) rfl (W := 0) (Nat.le_of_ble_eq_true rfl) (own_lenP hw S1 (St.ext O1.2) hz (by decide) (by decide)) (fun _ _ _ q => q.2) (by decide) (by decide) (fun _ _ _ _ q b => by obtain ⟨⟨_, rfl⟩, _⟩ := q; exact b) (pc' := 115) rfl ?_
            rintro _ _ L1 ⟨⟨rfl, rfl⟩, -⟩
            show Go p l e room_1 s m #[.int x0, .int x1, .int x2, .int x3] below meth c Z "com/example/llave/llave/policy/ObjectiveOfPinLaw" n0 _ (EnW s room_1 n0 Z consts_1 (fun v _ => v = some (.int 1))) _ _ _ 115 #[.val (.int x0), .val (.int x1), .val (.int x2), .val (.int x3), .val (.int (x0 &&& (3 : Int32))), .val (.int (x3 &&& 255)), .val (.int (1 : Int32)), .unset, .unset, .val (.ref la), .val (.ref (T.2.2.1 1)), .val (.int (0 : Int32)), .unset, .unset, .unset] [(.int (9 : Int32))]
            refine Go.iload C at_115 rfl (pc' := 117) rfl ?_
            refine Go.iadd C at_117 (pc' := 118) rfl ?_
            show Go p l e room_1 s m #[.int x0, .int x1, .int x2, .int x3] below meth c Z "com/example/llave/llave/policy/ObjectiveOfPinLaw" n0 _ (EnW s room_1 n0 Z consts_1 (fun v _ => v = some (.int 1))) _ _ _ 118 #[.val (.int x0), .val (.int x1), .val (.int x2), .val (.int x3), .val (.int (x0 &&& (3 : Int32))), .val (.int (x3 &&& 255)), .val (.int (1 : Int32)), .unset, .unset, .val (.ref la), .val (.ref (T.2.2.1 1)), .val (.int (0 : Int32)), .unset, .unset, .unset] [(.int (9 : Int32))]
            refine Go.istore C at_118 (L' := #[.val (.int x0), .val (.int x1), .val (.int x2), .val (.int x3), .val (.int (x0 &&& (3 : Int32))), .val (.int (x3 &&& 255)), .val (.int (1 : Int32)), .unset, .unset, .val (.ref la), .val (.ref (T.2.2.1 1)), .val (.int (0 : Int32)), .val (.int (9 : Int32)), .unset, .unset]) rfl (pc' := 120) rfl ?_
            refine Go.iloadN C at_120 rfl (pc' := 121) rfl ?_
            refine Go.ldcInt C at_121 (hw _ (List.mem_of_getElem? (i := 11) rfl)) (pc' := 123) rfl ?_
            refine Go.iand C at_123 (pc' := 124) rfl ?_
            refine Go.iload C at_124 rfl (pc' := 126) rfl ?_
            refine Go.irem C at_126 (by decide) (pc' := 127) rfl ?_
            obtain ⟨P, hP, eP⟩ := own_rem 9 (by decide) (by decide) x2 9 rfl
            rw [eP]
            show Go p l e room_1 s m #[.int x0, .int x1, .int x2, .int x3] below meth c Z "com/example/llave/llave/policy/ObjectiveOfPinLaw" n0 _ (EnW s room_1 n0 Z consts_1 (fun v _ => v = some (.int 1))) _ _ _ 127 #[.val (.int x0), .val (.int x1), .val (.int x2), .val (.int x3), .val (.int (x0 &&& (3 : Int32))), .val (.int (x3 &&& 255)), .val (.int (1 : Int32)), .unset, .unset, .val (.ref la), .val (.ref (T.2.2.1 1)), .val (.int (0 : Int32)), .val (.int (9 : Int32)), .unset, .unset] [(.int (Int32.ofNat P))]
            refine Go.istore C at_127 (L' := #[.val (.int x0), .val (.int x1), .val (.int x2), .val (.int x3), .val (.int (x0 &&& (3 : Int32))), .val (.int (x3 &&& 255)), .val (.int (1 : Int32)), .unset, .unset, .val (.ref la), .val (.ref (T.2.2.1 1)), .val (.int (0 : Int32)), .val (.int (9 : Int32)), .val (.int (Int32.ofNat P)), .unset]) rfl (pc' := 129) rfl ?_
            refine Go.iload C at_129 rfl (pc' := 131) rfl ?_
            refine Go.if_eq_f C at_131 (by decide) (pc' := 134) rfl ?_
            refine Go.aload C at_134 rfl rfl (pc' := 136) rfl ?_
            refine Go.iload C at_136 rfl (pc' := 138) rfl ?_
            refine Go.iload C at_138 rfl (pc' := 140) rfl ?_
            refine Go.iload C at_140 rfl (pc' := 142) rfl ?_
            show Go p l e room_1 s m #[.int x0, .int x1, .int x2, .int x3] below meth c Z "com/example/llave/llave/policy/ObjectiveOfPinLaw" n0 _ (EnW s room_1 n0 Z consts_1 (fun v _ => v = some (.int 1))) h1 _ _ 142 #[.val (.int x0), .val (.int x1), .val (.int x2), .val (.int x3), .val (.int (x0 &&& (3 : Int32))), .val (.int (x3 &&& 255)), .val (.int (1 : Int32)), .unset, .unset, .val (.ref la), .val (.ref (T.2.2.1 1)), .val (.int (0 : Int32)), .val (.int (9 : Int32)), .val (.int (Int32.ofNat P)), .unset] [(.int (x3 &&& 255)), (.int (Int32.ofNat P)), (.int (Int32.ofNat 9)), (.ref la)]
            refine Go.callS C at_142 (hw _ (List.mem_of_getElem? (i := 121) rfl)) (hw _ (List.mem_of_getElem? (i := 122) rfl)) (hw _ (List.mem_of_getElem? (i := 27) rfl)) (hw _ (List.mem_of_getElem? (i := 123) rfl)) (by decide) (argsL := [(.ref la), (.int (Int32.ofNat 9)), (.int (Int32.ofNat P)), (.int (x3 &&& 255))]) (rest := []) rfl (lenOf pd__Ljava_lang_String_IIC_Ljava_lang_String_ rfl) rfl (W := 0) (Nat.le_of_ble_eq_true rfl) (Ct.pay (rm_mutate l Z a0 hw la lb lk (own_W 1) 9 P x3 z fm h1 n0 Z1 S1 (by decide) (by decide) hP (by decide) St hz Fm rf O1) (hw _ (List.mem_of_getElem? (i := 123) rfl)) (hw _ (List.mem_of_getElem? (i := 27) rfl)) (by decide) (by decide)) (fun _ _ _ q => q.2) (by decide) (by decide) (fun _ _ _ _ q b => by obtain ⟨⟨_, _, _, _, K, _⟩, _⟩ := q; exact Bw.keep K (by simp) b) (pc' := 145) rfl ?_
            rintro _ h2 L2 ⟨⟨sa, ta, ks, rfl, K2, S2⟩, -⟩
            show Go p l e room_1 s m #[.int x0, .int x1, .int x2, .int x3] below meth c Z "com/example/llave/llave/policy/ObjectiveOfPinLaw" n0 _ (EnW s room_1 n0 Z consts_1 (fun v _ => v = some (.int 1))) _ _ _ 145 #[.val (.int x0), .val (.int x1), .val (.int x2), .val (.int x3), .val (.int (x0 &&& (3 : Int32))), .val (.int (x3 &&& 255)), .val (.int (1 : Int32)), .unset, .unset, .val (.ref la), .val (.ref (T.2.2.1 1)), .val (.int (0 : Int32)), .val (.int (9 : Int32)), .val (.int (Int32.ofNat P)), .unset] [(.ref sa)]
            have O2 := O1.keep K2 all0
            have Z2 := Nat.le_trans Z1 K2.1
            have S1' := S1.keep K2 nin0 nin0
            refine Go.astore C at_145 rfl (L' := #[.val (.int x0), .val (.int x1), .val (.int x2), .val (.int x3), .val (.int (x0 &&& (3 : Int32))), .val (.int (x3 &&& 255)), .val (.int (1 : Int32)), .val (.ref sa), .unset, .val (.ref la), .val (.ref (T.2.2.1 1)), .val (.int (0 : Int32)), .val (.int (9 : Int32)), .val (.int (Int32.ofNat P)), .unset]) rfl (pc' := 147) rfl ?_
            refine Go.iload C at_147 rfl (pc' := 149) rfl ?_
            refine Go.if_ne_f C at_149 (by decide) (pc' := 152) rfl ?_
            refine Go.iload C at_152 rfl (pc' := 154) rfl ?_
            refine Go.aload C at_154 rfl rfl (pc' := 156) rfl ?_
            refine Go.iload C at_156 rfl (pc' := 158) rfl ?_
            refine Go.callV C at_158 (hw _ (List.mem_of_getElem? (i := 33) rfl)) (hw _ (List.mem_of_getElem? (i := 34) rfl)) (hw _ (List.mem_of_getElem? (i := 36) rfl)) (hw _ (List.mem_of_getElem? (i := 35) rfl)) (fun st hZ => notFace_of_selects (args := #[]) (mvT hZ (hw _ (List.mem_of_getElem? (i := 36) rfl)))) (by decide) S1'.1 (argsL := [(.int (Int32.ofNat P))]) (rest := [(.int (x3 &&& 255))]) rfl (lenOf pd__I_C rfl) rfl (W := 1) (Nat.le_of_ble_eq_true rfl) (own_chP hw S1' (St.ext O2.2) hz (Fm.ext O2.2) rf (i := P) hP rfl (by decide) (by decide)) (fun _ _ _ q => q.2) (by decide) (by decide) (fun _ _ _ _ q b => by obtain ⟨⟨_, rfl⟩, _⟩ := q; exact b) (pc' := 161) rfl ?_
            rintro _ _ L3 ⟨⟨rfl, rfl⟩, -⟩
            show Go p l e room_1 s m #[.int x0, .int x1, .int x2, .int x3] below meth c Z "com/example/llave/llave/policy/ObjectiveOfPinLaw" n0 _ (EnW s room_1 n0 Z consts_1 (fun v _ => v = some (.int 1))) _ _ _ 161 #[.val (.int x0), .val (.int x1), .val (.int x2), .val (.int x3), .val (.int (x0 &&& (3 : Int32))), .val (.int (x3 &&& 255)), .val (.int (1 : Int32)), .val (.ref sa), .unset, .val (.ref la), .val (.ref (T.2.2.1 1)), .val (.int (0 : Int32)), .val (.int (9 : Int32)), .val (.int (Int32.ofNat P)), .unset] [(.int ((own_W 1).getD P 0)), (.int (x3 &&& 255))]
            refine Go.icmp_ne C at_161 (by decide) (pc1 := 168) (by decide) (pc2 := 164) rfl (fun hm => ?_) (fun hm => ?_)
            · refine Go.iconst C at_168 (v := 0) rfl (pc' := 169) rfl ?_
              refine Go.istore C at_169 (L' := #[.val (.int x0), .val (.int x1), .val (.int x2), .val (.int x3), .val (.int (x0 &&& (3 : Int32))), .val (.int (x3 &&& 255)), .val (.int (1 : Int32)), .val (.ref sa), .unset, .val (.ref la), .val (.ref (T.2.2.1 1)), .val (.int (0 : Int32)), .val (.int (9 : Int32)), .val (.int (Int32.ofNat P)), .val (.int (0 : Int32))]) rfl (pc' := 171) rfl ?_
              refine Go.goto C at_171 (by decide) (pc' := 197) (by decide) ?_
              refine Go.iload C at_197 rfl (pc' := 199) rfl ?_
              refine Go.if_eq_t C at_199 (by decide) (by decide) (pc' := 207) (by decide) ?_
              refine Go.aconstNull C at_207 (pc' := 208) rfl ?_
              refine Go.astore C at_208 rfl (L' := #[.val (.int x0), .val (.int x1), .val (.int x2), .val (.int x3), .val (.int (x0 &&& (3 : Int32))), .val (.int (x3 &&& 255)), .val (.int (1 : Int32)), .val (.ref sa), .val .null, .val (.ref la), .val (.ref (T.2.2.1 1)), .val (.int (0 : Int32)), .val (.int (9 : Int32)), .val (.int (Int32.ofNat P)), .val (.int (0 : Int32))]) rfl (pc' := 210) rfl ?_
              refine Go.aload C at_210 rfl rfl (pc' := 212) rfl ?_
              refine Go.callS C at_212 (hw _ (List.mem_of_getElem? (i := 76) rfl)) (hw _ (List.mem_of_getElem? (i := 77) rfl)) (hw _ (List.mem_of_getElem? (i := 9) rfl)) (hw _ (List.mem_of_getElem? (i := 78) rfl)) (by decide) (argsL := [(.ref sa)]) (rest := []) rfl (lenOf pd__Ljava_lang_String__Ljava_util_Optional_ rfl) rfl (W := 0) (Nat.le_of_ble_eq_true rfl) (Ct.pay (rm_ofs l Z a0 hw sa ta ks ((own_fill (own_W 1) (x3 &&& 255) 9 16).set P (x3 &&& 255)) T z h2 n0 Z2 O2 GT St hz S2) (hw _ (List.mem_of_getElem? (i := 78) rfl)) (hw _ (List.mem_of_getElem? (i := 9) rfl)) (by decide) (by decide)) (fun _ _ _ q => q.2) (by decide) (by decide) (fun _ _ _ _ q b => by obtain ⟨⟨_, _, K, _⟩, _⟩ := q; exact Bw.keep K (by simp) b) (pc' := 215) rfl ?_
              rintro _ h9 L9 ⟨⟨f9, rfl, K9, A9, F9⟩, -⟩
              show Go p l e room_1 s m #[.int x0, .int x1, .int x2, .int x3] below meth c Z "com/example/llave/llave/policy/ObjectiveOfPinLaw" n0 _ (EnW s room_1 n0 Z consts_1 (fun v _ => v = some (.int 1))) _ _ _ 215 #[.val (.int x0), .val (.int x1), .val (.int x2), .val (.int x3), .val (.int (x0 &&& (3 : Int32))), .val (.int (x3 &&& 255)), .val (.int (1 : Int32)), .val (.ref sa), .val .null, .val (.ref la), .val (.ref (T.2.2.1 1)), .val (.int (0 : Int32)), .val (.int (9 : Int32)), .val (.int (Int32.ofNat P)), .val (.int (0 : Int32))] [(.ref f9)]
              rw [own_miss1 T.2.2.1 hP hm] at F9
              refine Go.aconstNull C at_215 (pc' := 216) rfl ?_
              refine Go.callV C at_216 (hw _ (List.mem_of_getElem? (i := 112) rfl)) (hw _ (List.mem_of_getElem? (i := 113) rfl)) (hw _ (List.mem_of_getElem? (i := 115) rfl)) (hw _ (List.mem_of_getElem? (i := 114) rfl)) (fun st hZ => notFace_of_selects (args := #[]) (mvT hZ (hw _ (List.mem_of_getElem? (i := 115) rfl)))) (by decide) A9 (argsL := [.null]) (rest := []) rfl (lenOf pd__Ljava_lang_Object__Ljava_lang_Object_ rfl) rfl (W := 0) (Nat.le_of_ble_eq_true rfl) (Ct.pay (rm_els l Z a0 hw f9 .null h9 n0 F9 (Or.inl rfl)) (hw _ (List.mem_of_getElem? (i := 116) rfl)) (hw _ (List.mem_of_getElem? (i := 81) rfl)) (by decide) (by decide)) (fun _ _ _ q => q.2) (by decide) (by decide) (fun _ _ _ _ q b => by obtain ⟨⟨_, rfl⟩, _⟩ := q; exact b) (pc' := 219) rfl ?_
              rintro _ _ L10 ⟨⟨rfl, rfl⟩, -⟩
              show Go p l e room_1 s m #[.int x0, .int x1, .int x2, .int x3] below meth c Z "com/example/llave/llave/policy/ObjectiveOfPinLaw" n0 _ (EnW s room_1 n0 Z consts_1 (fun v _ => v = some (.int 1))) _ _ _ 219 #[.val (.int x0), .val (.int x1), .val (.int x2), .val (.int x3), .val (.int (x0 &&& (3 : Int32))), .val (.int (x3 &&& 255)), .val (.int (1 : Int32)), .val (.ref sa), .val .null, .val (.ref la), .val (.ref (T.2.2.1 1)), .val (.int (0 : Int32)), .val (.int (9 : Int32)), .val (.int (Int32.ofNat P)), .val (.int (0 : Int32))] [.null]
              refine Go.castNull C at_219 (pc' := 222) rfl ?_
              refine Go.astore C at_222 rfl (L' := #[.val (.int x0), .val (.int x1), .val (.int x2), .val (.int x3), .val (.int (x0 &&& (3 : Int32))), .val (.int (x3 &&& 255)), .val (.int (1 : Int32)), .val (.ref sa), .val .null, .val .null, .val (.ref (T.2.2.1 1)), .val (.int (0 : Int32)), .val (.int (9 : Int32)), .val (.int (Int32.ofNat P)), .val (.int (0 : Int32))]) rfl (pc' := 224) rfl ?_
              refine Go.aload C at_224 rfl rfl (pc' := 226) rfl ?_
              refine Go.aload C at_226 rfl rfl (pc' := 228) rfl ?_
              refine Go.acmp_ne_f C at_228 rfl rfl rfl (by decide) (pc' := 231) rfl ?_
              refine Go.iconst C at_231 (v := 1) rfl (pc' := 232) rfl ?_
              refine Go.goto C at_232 (by decide) (pc' := 236) (by decide) ?_
              refine Go.retNW C hEL (by simp) at_236 (by decide) (by decide) ?_
              exact rfl
            · refine Go.iconst C at_164 (v := 1) rfl (pc' := 165) rfl ?_
              refine Go.goto C at_165 (by decide) (pc' := 169) (by decide) ?_
              refine Go.istore C at_169 (L' := #[.val (.int x0), .val (.int x1), .val (.int x2), .val (.int x3), .val (.int (x0 &&& (3 : Int32))), .val (.int (x3 &&& 255)), .val (.int (1 : Int32)), .val (.ref sa), .unset, .val (.ref la), .val (.ref (T.2.2.1 1)), .val (.int (0 : Int32)), .val (.int (9 : Int32)), .val (.int (Int32.ofNat P)), .val (.int (1 : Int32))]) rfl (pc' := 171) rfl ?_
              refine Go.goto C at_171 (by decide) (pc' := 197) (by decide) ?_
              refine Go.iload C at_197 rfl (pc' := 199) rfl ?_
              refine Go.if_eq_f C at_199 (by decide) (pc' := 202) rfl ?_
              refine Go.aload C at_202 rfl rfl (pc' := 204) rfl ?_
              refine Go.goto C at_204 (by decide) (pc' := 208) (by decide) ?_
              refine Go.astore C at_208 rfl (L' := #[.val (.int x0), .val (.int x1), .val (.int x2), .val (.int x3), .val (.int (x0 &&& (3 : Int32))), .val (.int (x3 &&& 255)), .val (.int (1 : Int32)), .val (.ref sa), .val (.ref (T.2.2.1 1)), .val (.ref la), .val (.ref (T.2.2.1 1)), .val (.int (0 : Int32)), .val (.int (9 : Int32)), .val (.int (Int32.ofNat P)), .val (.int (1 : Int32))]) rfl (pc' := 210) rfl ?_
              refine Go.aload C at_210 rfl rfl (pc' := 212) rfl ?_
              refine Go.callS C at_212 (hw _ (List.mem_of_getElem? (i := 76) rfl)) (hw _ (List.mem_of_getElem? (i := 77) rfl)) (hw _ (List.mem_of_getElem? (i := 9) rfl)) (hw _ (List.mem_of_getElem? (i := 78) rfl)) (by decide) (argsL := [(.ref sa)]) (rest := []) rfl (lenOf pd__Ljava_lang_String__Ljava_util_Optional_ rfl) rfl (W := 0) (Nat.le_of_ble_eq_true rfl) (Ct.pay (rm_ofs l Z a0 hw sa ta ks ((own_fill (own_W 1) (x3 &&& 255) 9 16).set P (x3 &&& 255)) T z h2 n0 Z2 O2 GT St hz S2) (hw _ (List.mem_of_getElem? (i := 78) rfl)) (hw _ (List.mem_of_getElem? (i := 9) rfl)) (by decide) (by decide)) (fun _ _ _ q => q.2) (by decide) (by decide) (fun _ _ _ _ q b => by obtain ⟨⟨_, _, K, _⟩, _⟩ := q; exact Bw.keep K (by simp) b) (pc' := 215) rfl ?_
              rintro _ h9 L9 ⟨⟨f9, rfl, K9, A9, F9⟩, -⟩
              show Go p l e room_1 s m #[.int x0, .int x1, .int x2, .int x3] below meth c Z "com/example/llave/llave/policy/ObjectiveOfPinLaw" n0 _ (EnW s room_1 n0 Z consts_1 (fun v _ => v = some (.int 1))) _ _ _ 215 #[.val (.int x0), .val (.int x1), .val (.int x2), .val (.int x3), .val (.int (x0 &&& (3 : Int32))), .val (.int (x3 &&& 255)), .val (.int (1 : Int32)), .val (.ref sa), .val (.ref (T.2.2.1 1)), .val (.ref la), .val (.ref (T.2.2.1 1)), .val (.int (0 : Int32)), .val (.int (9 : Int32)), .val (.int (Int32.ofNat P)), .val (.int (1 : Int32))] [(.ref f9)]
              rw [own_hit1 T.2.2.1 hP hm] at F9
              refine Go.aconstNull C at_215 (pc' := 216) rfl ?_
              refine Go.callV C at_216 (hw _ (List.mem_of_getElem? (i := 112) rfl)) (hw _ (List.mem_of_getElem? (i := 113) rfl)) (hw _ (List.mem_of_getElem? (i := 115) rfl)) (hw _ (List.mem_of_getElem? (i := 114) rfl)) (fun st hZ => notFace_of_selects (args := #[]) (mvT hZ (hw _ (List.mem_of_getElem? (i := 115) rfl)))) (by decide) A9 (argsL := [.null]) (rest := []) rfl (lenOf pd__Ljava_lang_Object__Ljava_lang_Object_ rfl) rfl (W := 0) (Nat.le_of_ble_eq_true rfl) (Ct.pay (rm_els l Z a0 hw f9 (.ref (T.2.2.1 1)) h9 n0 F9 (Or.inr ⟨_, rfl⟩)) (hw _ (List.mem_of_getElem? (i := 116) rfl)) (hw _ (List.mem_of_getElem? (i := 81) rfl)) (by decide) (by decide)) (fun _ _ _ q => q.2) (by decide) (by decide) (fun _ _ _ _ q b => by obtain ⟨⟨_, rfl⟩, _⟩ := q; exact b) (pc' := 219) rfl ?_
              rintro _ _ L10 ⟨⟨rfl, rfl⟩, -⟩
              show Go p l e room_1 s m #[.int x0, .int x1, .int x2, .int x3] below meth c Z "com/example/llave/llave/policy/ObjectiveOfPinLaw" n0 _ (EnW s room_1 n0 Z consts_1 (fun v _ => v = some (.int 1))) _ _ _ 219 #[.val (.int x0), .val (.int x1), .val (.int x2), .val (.int x3), .val (.int (x0 &&& (3 : Int32))), .val (.int (x3 &&& 255)), .val (.int (1 : Int32)), .val (.ref sa), .val (.ref (T.2.2.1 1)), .val (.ref la), .val (.ref (T.2.2.1 1)), .val (.int (0 : Int32)), .val (.int (9 : Int32)), .val (.int (Int32.ofNat P)), .val (.int (1 : Int32))] [(.ref (T.2.2.1 1))]
              refine Go.castY C at_219 (hw _ (List.mem_of_getElem? (i := 141) rfl)) (Ins.self (((Gj 1).1.ext O2.2).keep K9)) (pc' := 222) rfl ?_
              refine Go.astore C at_222 rfl (L' := #[.val (.int x0), .val (.int x1), .val (.int x2), .val (.int x3), .val (.int (x0 &&& (3 : Int32))), .val (.int (x3 &&& 255)), .val (.int (1 : Int32)), .val (.ref sa), .val (.ref (T.2.2.1 1)), .val (.ref (T.2.2.1 1)), .val (.ref (T.2.2.1 1)), .val (.int (0 : Int32)), .val (.int (9 : Int32)), .val (.int (Int32.ofNat P)), .val (.int (1 : Int32))]) rfl (pc' := 224) rfl ?_
              refine Go.aload C at_224 rfl rfl (pc' := 226) rfl ?_
              refine Go.aload C at_226 rfl rfl (pc' := 228) rfl ?_
              refine Go.acmp_ne_f C at_228 rfl rfl rfl (by decide) (pc' := 231) rfl ?_
              refine Go.iconst C at_231 (v := 1) rfl (pc' := 232) rfl ?_
              refine Go.goto C at_232 (by decide) (pc' := 236) (by decide) ?_
              refine Go.retNW C hEL (by simp) at_236 (by decide) (by decide) ?_
              exact rfl
          · rw [ed]
            show Go p l e room_1 s m #[.int x0, .int x1, .int x2, .int x3] below meth c Z "com/example/llave/llave/policy/ObjectiveOfPinLaw" n0 _ (EnW s room_1 n0 Z consts_1 (fun v _ => v = some (.int 1))) _ _ _ 106 #[.val (.int x0), .val (.int x1), .val (.int x2), .val (.int x3), .val (.int (x0 &&& (3 : Int32))), .val (.int (x3 &&& 255)), .val (.int (1 : Int32)), .unset, .unset, .val (.ref la), .val (.ref (T.2.2.1 1)), .unset, .unset, .unset, .unset] [(.int (2 : Int32))]
            refine Go.iconst C at_106 (v := 1) rfl (pc' := 107) rfl ?_
            refine Go.isub C at_107 (pc' := 108) rfl ?_
            show Go p l e room_1 s m #[.int x0, .int x1, .int x2, .int x3] below meth c Z "com/example/llave/llave/policy/ObjectiveOfPinLaw" n0 _ (EnW s room_1 n0 Z consts_1 (fun v _ => v = some (.int 1))) _ _ _ 108 #[.val (.int x0), .val (.int x1), .val (.int x2), .val (.int x3), .val (.int (x0 &&& (3 : Int32))), .val (.int (x3 &&& 255)), .val (.int (1 : Int32)), .unset, .unset, .val (.ref la), .val (.ref (T.2.2.1 1)), .unset, .unset, .unset, .unset] [(.int (1 : Int32))]
            refine Go.istore C at_108 (L' := #[.val (.int x0), .val (.int x1), .val (.int x2), .val (.int x3), .val (.int (x0 &&& (3 : Int32))), .val (.int (x3 &&& 255)), .val (.int (1 : Int32)), .unset, .unset, .val (.ref la), .val (.ref (T.2.2.1 1)), .val (.int (1 : Int32)), .unset, .unset, .unset]) rfl (pc' := 110) rfl ?_
            refine Go.aload C at_110 rfl rfl (pc' := 112) rfl ?_
            refine Go.callV C at_112 (hw _ (List.mem_of_getElem? (i := 12) rfl)) (hw _ (List.mem_of_getElem? (i := 13) rfl)) (hw _ (List.mem_of_getElem? (i := 15) rfl)) (hw _ (List.mem_of_getElem? (i := 14) rfl)) (fun st hZ => notFace_of_selects (args := #[]) (mvT hZ (hw _ (List.mem_of_getElem? (i := 15) rfl)))) (by decide) S1.1 (argsL := []) (rest := []) rfl (lenOf pd___I rfl) rfl (W := 0) (Nat.le_of_ble_eq_true rfl) (own_lenP hw S1 (St.ext O1.2) hz (by decide) (by decide)) (fun _ _ _ q => q.2) (by decide) (by decide) (fun _ _ _ _ q b => by obtain ⟨⟨_, rfl⟩, _⟩ := q; exact b) (pc' := 115) rfl ?_
            rintro _ _ L1 ⟨⟨rfl, rfl⟩, -⟩
            show Go p l e room_1 s m #[.int x0, .int x1, .int x2, .int x3] below meth c Z "com/example/llave/llave/policy/ObjectiveOfPinLaw" n0 _ (EnW s room_1 n0 Z consts_1 (fun v _ => v = some (.int 1))) _ _ _ 115 #[.val (.int x0), .val (.int x1), .val (.int x2), .val (.int x3), .val (.int (x0 &&& (3 : Int32))), .val (.int (x3 &&& 255)), .val (.int (1 : Int32)), .unset, .unset, .val (.ref la), .val (.ref (T.2.2.1 1)), .val (.int (1 : Int32)), .unset, .unset, .unset] [(.int (9 : Int32))]
            refine Go.iload C at_115 rfl (pc' := 117) rfl ?_
            refine Go.iadd C at_117 (pc' := 118) rfl ?_
            show Go p l e room_1 s m #[.int x0, .int x1, .int x2, .int x3] below meth c Z "com/example/llave/llave/policy/ObjectiveOfPinLaw" n0 _ (EnW s room_1 n0 Z consts_1 (fun v _ => v = some (.int 1))) _ _ _ 118 #[.val (.int x0), .val (.int x1), .val (.int x2), .val (.int x3), .val (.int (x0 &&& (3 : Int32))), .val (.int (x3 &&& 255)), .val (.int (1 : Int32)), .unset, .unset, .val (.ref la), .val (.ref (T.2.2.1 1)), .val (.int (1 : Int32)), .unset, .unset, .unset] [(.int (10 : Int32))]
            refine Go.istore C at_118 (L' := #[.val (.int x0), .val (.int x1), .val (.int x2), .val (.int x3), .val (.int (x0 &&& (3 : Int32))), .val (.int (x3 &&& 255)), .val (.int (1 : Int32)), .unset, .unset, .val (.ref la), .val (.ref (T.2.2.1 1)), .val (.int (1 : Int32)), .val (.int (10 : Int32)), .unset, .unset]) rfl (pc' := 120) rfl ?_
            refine Go.iloadN C at_120 rfl (pc' := 121) rfl ?_
            refine Go.ldcInt C at_121 (hw _ (List.mem_of_getElem? (i := 11) rfl)) (pc' := 123) rfl ?_
            refine Go.iand C at_123 (pc' := 124) rfl ?_
            refine Go.iload C at_124 rfl (pc' := 126) rfl ?_
            refine Go.irem C at_126 (by decide) (pc' := 127) rfl ?_
            obtain ⟨P, hP, eP⟩ := own_rem 10 (by decide) (by decide) x2 10 rfl
            rw [eP]
            show Go p l e room_1 s m #[.int x0, .int x1, .int x2, .int x3] below meth c Z "com/example/llave/llave/policy/ObjectiveOfPinLaw" n0 _ (EnW s room_1 n0 Z consts_1 (fun v _ => v = some (.int 1))) _ _ _ 127 #[.val (.int x0), .val (.int x1), .val (.int x2), .val (.int x3), .val (.int (x0 &&& (3 : Int32))), .val (.int (x3 &&& 255)), .val (.int (1 : Int32)), .unset, .unset, .val (.ref la), .val (.ref (T.2.2.1 1)), .val (.int (1 : Int32)), .val (.int (10 : Int32)), .unset, .unset] [(.int (Int32.ofNat P))]
            refine Go.istore C at_127 (L' := #[.val (.int x0), .val (.int x1), .val (.int x2), .val (.int x3), .val (.int (x0 &&& (3 : Int32))), .val (.int (x3 &&& 255)), .val (.int (1 : Int32)), .unset, .unset, .val (.ref la), .val (.ref (T.2.2.1 1)), .val (.int (1 : Int32)), .val (.int (10 : Int32)), .val (.int (Int32.ofNat P)), .unset]) rfl (pc' := 129) rfl ?_
            refine Go.iload C at_129 rfl (pc' := 131) rfl ?_
            refine Go.if_eq_f C at_131 (by decide) (pc' := 134) rfl ?_
            refine Go.aload C at_134 rfl rfl (pc' := 136) rfl ?_
            refine Go.iload C at_136 rfl (pc' := 138) rfl ?_
            refine Go.iload C at_138 rfl (pc' := 140) rfl ?_
            refine Go.iload C at_140 rfl (pc' := 142) rfl ?_
            show Go p l e room_1 s m #[.int x0, .int x1, .int x2, .int x3] below meth c Z "com/example/llave/llave/policy/ObjectiveOfPinLaw" n0 _ (EnW s room_1 n0 Z consts_1 (fun v _ => v = some (.int 1))) h1 _ _ 142 #[.val (.int x0), .val (.int x1), .val (.int x2), .val (.int x3), .val (.int (x0 &&& (3 : Int32))), .val (.int (x3 &&& 255)), .val (.int (1 : Int32)), .unset, .unset, .val (.ref la), .val (.ref (T.2.2.1 1)), .val (.int (1 : Int32)), .val (.int (10 : Int32)), .val (.int (Int32.ofNat P)), .unset] [(.int (x3 &&& 255)), (.int (Int32.ofNat P)), (.int (Int32.ofNat 10)), (.ref la)]
            refine Go.callS C at_142 (hw _ (List.mem_of_getElem? (i := 121) rfl)) (hw _ (List.mem_of_getElem? (i := 122) rfl)) (hw _ (List.mem_of_getElem? (i := 27) rfl)) (hw _ (List.mem_of_getElem? (i := 123) rfl)) (by decide) (argsL := [(.ref la), (.int (Int32.ofNat 10)), (.int (Int32.ofNat P)), (.int (x3 &&& 255))]) (rest := []) rfl (lenOf pd__Ljava_lang_String_IIC_Ljava_lang_String_ rfl) rfl (W := 0) (Nat.le_of_ble_eq_true rfl) (Ct.pay (rm_mutate l Z a0 hw la lb lk (own_W 1) 10 P x3 z fm h1 n0 Z1 S1 (by decide) (by decide) hP (by decide) St hz Fm rf O1) (hw _ (List.mem_of_getElem? (i := 123) rfl)) (hw _ (List.mem_of_getElem? (i := 27) rfl)) (by decide) (by decide)) (fun _ _ _ q => q.2) (by decide) (by decide) (fun _ _ _ _ q b => by obtain ⟨⟨_, _, _, _, K, _⟩, _⟩ := q; exact Bw.keep K (by simp) b) (pc' := 145) rfl ?_
            rintro _ h2 L2 ⟨⟨sa, ta, ks, rfl, K2, S2⟩, -⟩
            show Go p l e room_1 s m #[.int x0, .int x1, .int x2, .int x3] below meth c Z "com/example/llave/llave/policy/ObjectiveOfPinLaw" n0 _ (EnW s room_1 n0 Z consts_1 (fun v _ => v = some (.int 1))) _ _ _ 145 #[.val (.int x0), .val (.int x1), .val (.int x2), .val (.int x3), .val (.int (x0 &&& (3 : Int32))), .val (.int (x3 &&& 255)), .val (.int (1 : Int32)), .unset, .unset, .val (.ref la), .val (.ref (T.2.2.1 1)), .val (.int (1 : Int32)), .val (.int (10 : Int32)), .val (.int (Int32.ofNat P)), .unset] [(.ref sa)]
            have O2 := O1.keep K2 all0
            have Z2 := Nat.le_trans Z1 K2.1
            have S1' := S1.keep K2 nin0 nin0
            refine Go.astore C at_145 rfl (L' := #[.val (.int x0), .val (.int x1), .val (.int x2), .val (.int x3), .val (.int (x0 &&& (3 : Int32))), .val (.int (x3 &&& 255)), .val (.int (1 : Int32)), .val (.ref sa), .unset, .val (.ref la), .val (.ref (T.2.2.1 1)), .val (.int (1 : Int32)), .val (.int (10 : Int32)), .val (.int (Int32.ofNat P)), .unset]) rfl (pc' := 147) rfl ?_
            refine Go.iload C at_147 rfl (pc' := 149) rfl ?_
            refine Go.if_ne_t C at_149 (by decide) (by decide) (pc' := 168) (by decide) ?_
            refine Go.iconst C at_168 (v := 0) rfl (pc' := 169) rfl ?_
            refine Go.istore C at_169 (L' := #[.val (.int x0), .val (.int x1), .val (.int x2), .val (.int x3), .val (.int (x0 &&& (3 : Int32))), .val (.int (x3 &&& 255)), .val (.int (1 : Int32)), .val (.ref sa), .unset, .val (.ref la), .val (.ref (T.2.2.1 1)), .val (.int (1 : Int32)), .val (.int (10 : Int32)), .val (.int (Int32.ofNat P)), .val (.int (0 : Int32))]) rfl (pc' := 171) rfl ?_
            refine Go.goto C at_171 (by decide) (pc' := 197) (by decide) ?_
            refine Go.iload C at_197 rfl (pc' := 199) rfl ?_
            refine Go.if_eq_t C at_199 (by decide) (by decide) (pc' := 207) (by decide) ?_
            refine Go.aconstNull C at_207 (pc' := 208) rfl ?_
            refine Go.astore C at_208 rfl (L' := #[.val (.int x0), .val (.int x1), .val (.int x2), .val (.int x3), .val (.int (x0 &&& (3 : Int32))), .val (.int (x3 &&& 255)), .val (.int (1 : Int32)), .val (.ref sa), .val .null, .val (.ref la), .val (.ref (T.2.2.1 1)), .val (.int (1 : Int32)), .val (.int (10 : Int32)), .val (.int (Int32.ofNat P)), .val (.int (0 : Int32))]) rfl (pc' := 210) rfl ?_
            refine Go.aload C at_210 rfl rfl (pc' := 212) rfl ?_
            refine Go.callS C at_212 (hw _ (List.mem_of_getElem? (i := 76) rfl)) (hw _ (List.mem_of_getElem? (i := 77) rfl)) (hw _ (List.mem_of_getElem? (i := 9) rfl)) (hw _ (List.mem_of_getElem? (i := 78) rfl)) (by decide) (argsL := [(.ref sa)]) (rest := []) rfl (lenOf pd__Ljava_lang_String__Ljava_util_Optional_ rfl) rfl (W := 0) (Nat.le_of_ble_eq_true rfl) (Ct.pay (rm_ofs l Z a0 hw sa ta ks ((own_fill (own_W 1) (x3 &&& 255) 10 16).set P (x3 &&& 255)) T z h2 n0 Z2 O2 GT St hz S2) (hw _ (List.mem_of_getElem? (i := 78) rfl)) (hw _ (List.mem_of_getElem? (i := 9) rfl)) (by decide) (by decide)) (fun _ _ _ q => q.2) (by decide) (by decide) (fun _ _ _ _ q b => by obtain ⟨⟨_, _, K, _⟩, _⟩ := q; exact Bw.keep K (by simp) b) (pc' := 215) rfl ?_
            rintro _ h9 L9 ⟨⟨f9, rfl, K9, A9, F9⟩, -⟩
            show Go p l e room_1 s m #[.int x0, .int x1, .int x2, .int x3] below meth c Z "com/example/llave/llave/policy/ObjectiveOfPinLaw" n0 _ (EnW s room_1 n0 Z consts_1 (fun v _ => v = some (.int 1))) _ _ _ 215 #[.val (.int x0), .val (.int x1), .val (.int x2), .val (.int x3), .val (.int (x0 &&& (3 : Int32))), .val (.int (x3 &&& 255)), .val (.int (1 : Int32)), .val (.ref sa), .val .null, .val (.ref la), .val (.ref (T.2.2.1 1)), .val (.int (1 : Int32)), .val (.int (10 : Int32)), .val (.int (Int32.ofNat P)), .val (.int (0 : Int32))] [(.ref f9)]
            rw [own_none T.2.2.1 ((own_fill (own_W 1) (x3 &&& 255) 10 16).set P (x3 &&& 255)) (by simp [own_len])] at F9
            refine Go.aconstNull C at_215 (pc' := 216) rfl ?_
            refine Go.callV C at_216 (hw _ (List.mem_of_getElem? (i := 112) rfl)) (hw _ (List.mem_of_getElem? (i := 113) rfl)) (hw _ (List.mem_of_getElem? (i := 115) rfl)) (hw _ (List.mem_of_getElem? (i := 114) rfl)) (fun st hZ => notFace_of_selects (args := #[]) (mvT hZ (hw _ (List.mem_of_getElem? (i := 115) rfl)))) (by decide) A9 (argsL := [.null]) (rest := []) rfl (lenOf pd__Ljava_lang_Object__Ljava_lang_Object_ rfl) rfl (W := 0) (Nat.le_of_ble_eq_true rfl) (Ct.pay (rm_els l Z a0 hw f9 .null h9 n0 F9 (Or.inl rfl)) (hw _ (List.mem_of_getElem? (i := 116) rfl)) (hw _ (List.mem_of_getElem? (i := 81) rfl)) (by decide) (by decide)) (fun _ _ _ q => q.2) (by decide) (by decide) (fun _ _ _ _ q b => by obtain ⟨⟨_, rfl⟩, _⟩ := q; exact b) (pc' := 219) rfl ?_
            rintro _ _ L10 ⟨⟨rfl, rfl⟩, -⟩
            show Go p l e room_1 s m #[.int x0, .int x1, .int x2, .int x3] below meth c Z "com/example/llave/llave/policy/ObjectiveOfPinLaw" n0 _ (EnW s room_1 n0 Z consts_1 (fun v _ => v = some (.int 1))) _ _ _ 219 #[.val (.int x0), .val (.int x1), .val (.int x2), .val (.int x3), .val (.int (x0 &&& (3 : Int32))), .val (.int (x3 &&& 255)), .val (.int (1 : Int32)), .val (.ref sa), .val .null, .val (.ref la), .val (.ref (T.2.2.1 1)), .val (.int (1 : Int32)), .val (.int (10 : Int32)), .val (.int (Int32.ofNat P)), .val (.int (0 : Int32))] [.null]
            refine Go.castNull C at_219 (pc' := 222) rfl ?_
            refine Go.astore C at_222 rfl (L' := #[.val (.int x0), .val (.int x1), .val (.int x2), .val (.int x3), .val (.int (x0 &&& (3 : Int32))), .val (.int (x3 &&& 255)), .val (.int (1 : Int32)), .val (.ref sa), .val .null, .val .null, .val (.ref (T.2.2.1 1)), .val (.int (1 : Int32)), .val (.int (10 : Int32)), .val (.int (Int32.ofNat P)), .val (.int (0 : Int32))]) rfl (pc' := 224) rfl ?_
            refine Go.aload C at_224 rfl rfl (pc' := 226) rfl ?_
            refine Go.aload C at_226 rfl rfl (pc' := 228) rfl ?_
            refine Go.acmp_ne_f C at_228 rfl rfl rfl (by decide) (pc' := 231) rfl ?_
            refine Go.iconst C at_231 (v := 1) rfl (pc' := 232) rfl ?_
            refine Go.goto C at_232 (by decide) (pc' := 236) (by decide) ?_
            refine Go.retNW C hEL (by simp) at_236 (by decide) (by decide) ?_
            exact rfl
      · refine Go.ldcW C at_61 (hw _ (List.mem_of_getElem? (i := 0) rfl)) own_sa hEL (by decide) (vs := (((own_W 0) : List Int32).map fun c => c.toInt8.toInt32).map Value.int) (z := 15) (n := 60) ⟨by decide, by decide⟩ (by decide) (by decide) (by decide) (by decide) (by decide) (by decide) (pc' := 63) rfl ?_
        intro h1 la lb lk X1 A1 C1 V1 Y1 N1
        have S1 : Str Z h1 la lb lk (own_W 0) := ⟨A1, C1, V1, Y1, by decide, by decide⟩
        have O1 := O0.ext X1
        have Z1 := Nat.le_trans Z0 X1.1
        refine Go.astore C at_63 rfl (L' := #[.val (.int x0), .val (.int x1), .val (.int x2), .val (.int x3), .val (.int (x0 &&& (3 : Int32))), .val (.int (x3 &&& 255)), .val (.int (1 : Int32)), .unset, .unset, .val (.ref la), .unset, .unset, .unset, .unset, .unset]) rfl (pc' := 65) rfl ?_
        refine Go.getS C at_65 (hw _ (List.mem_of_getElem? (i := 8) rfl)) Via.refl ((Gs.1).ext O1.2) (pc' := 68) rfl ?_
        refine Go.astore C at_68 rfl (L' := #[.val (.int x0), .val (.int x1), .val (.int x2), .val (.int x3), .val (.int (x0 &&& (3 : Int32))), .val (.int (x3 &&& 255)), .val (.int (1 : Int32)), .unset, .unset, .val (.ref la), .val (.ref (T.2.2.1 0)), .unset, .unset, .unset, .unset]) rfl (pc' := 70) rfl ?_
        refine Go.goto C at_70 (by decide) (pc' := 100) (by decide) ?_
        refine Go.iloadN C at_100 rfl (pc' := 101) rfl ?_
        refine Go.ldcInt C at_101 (hw _ (List.mem_of_getElem? (i := 11) rfl)) (pc' := 103) rfl ?_
        refine Go.iand C at_103 (pc' := 104) rfl ?_
        refine Go.iconst C at_104 (v := 3) rfl (pc' := 105) rfl ?_
        refine Go.irem C at_105 (by decide) (pc' := 106) rfl ?_
        rcases own_rem3 x1 with ed | ed | ed
        · rw [ed]
          show Go p l e room_1 s m #[.int x0, .int x1, .int x2, .int x3] below meth c Z "com/example/llave/llave/policy/ObjectiveOfPinLaw" n0 _ (EnW s room_1 n0 Z consts_1 (fun v _ => v = some (.int 1))) _ _ _ 106 #[.val (.int x0), .val (.int x1), .val (.int x2), .val (.int x3), .val (.int (x0 &&& (3 : Int32))), .val (.int (x3 &&& 255)), .val (.int (1 : Int32)), .unset, .unset, .val (.ref la), .val (.ref (T.2.2.1 0)), .unset, .unset, .unset, .unset] [(.int (0 : Int32))]
          refine Go.iconst C at_106 (v := 1) rfl (pc' := 107) rfl ?_
          refine Go.isub C at_107 (pc' := 108) rfl ?_
          show Go p l e room_1 s m #[.int x0, .int x1, .int x2, .int x3] below meth c Z "com/example/llave/llave/policy/ObjectiveOfPinLaw" n0 _ (EnW s room_1 n0 Z consts_1 (fun v _ => v = some (.int 1))) _ _ _ 108 #[.val (.int x0), .val (.int x1), .val (.int x2), .val (.int x3), .val (.int (x0 &&& (3 : Int32))), .val (.int (x3 &&& 255)), .val (.int (1 : Int32)), .unset, .unset, .val (.ref la), .val (.ref (T.2.2.1 0)), .unset, .unset, .unset, .unset] [(.int (-1 : Int32))]
          refine Go.istore C at_108 (L' := #[.val (.int x0), .val (.int x1), .val (.int x2), .val (.int x3), .val (.int (x0 &&& (3 : Int32))), .val (.int (x3 &&& 255)), .val (.int (1 : Int32)), .unset, .unset, .val (.ref la), .val (.ref (T.2.2.1 0)), .val (.int (-1 : Int32)), .unset, .unset, .unset]) rfl (pc' := 110) rfl ?_
          refine Go.aload C at_110 rfl rfl (pc' := 112) rfl ?_
          refine Go.callV C at_112 (hw _ (List.mem_of_getElem? (i := 12) rfl)) (hw _ (List.mem_of_getElem? (i := 13) rfl)) (hw _ (List.mem_of_getElem? (i := 15) rfl)) (hw _ (List.mem_of_getElem? (i := 14) rfl)) (fun st hZ => notFace_of_selects (args := #[]) (mvT hZ (hw _ (List.mem_of_getElem? (i := 15) rfl)))) (by decide) S1.1 (argsL := []) (rest := []) rfl (lenOf pd___I rfl) rfl (W := 0) (Nat.le_of_ble_eq_true rfl) (own_lenP hw S1 (St.ext O1.2) hz (by decide) (by decide)) (fun _ _ _ q => q.2) (by decide) (by decide) (fun _ _ _ _ q b => by obtain ⟨⟨_, rfl⟩, _⟩ := q; exact b) (pc' := 115) rfl ?_
          rintro _ _ L1 ⟨⟨rfl, rfl⟩, -⟩
          show Go p l e room_1 s m #[.int x0, .int x1, .int x2, .int x3] below meth c Z "com/example/llave/llave/policy/ObjectiveOfPinLaw" n0 _ (EnW s room_1 n0 Z consts_1 (fun v _ => v = some (.int 1))) _ _ _ 115 #[.val (.int x0), .val (.int x1), .val (.int x2), .val (.int x3), .val (.int (x0 &&& (3 : Int32))), .val (.int (x3 &&& 255)), .val (.int (1 : Int32)), .unset, .unset, .val (.ref la), .val (.ref (T.2.2.1 0)), .val (.int (-1 : Int32)), .unset, .unset, .unset] [(.int (15 : Int32))]
          refine Go.iload C at_115 rfl (pc' := 117) rfl ?_
          refine Go.iadd C at_117 (pc' := 118) rfl ?_
          show Go p l e room_1 s m #[.int x0, .int x1, .int x2, .int x3] below meth c Z "com/example/llave/llave/policy/ObjectiveOfPinLaw" n0 _ (EnW s room_1 n0 Z consts_1 (fun v _ => v = some (.int 1))) _ _ _ 118 #[.val (.int x0), .val (.int x1), .val (.int x2), .val (.int x3), .val (.int (x0 &&& (3 : Int32))), .val (.int (x3 &&& 255)), .val (.int (1 : Int32)), .unset, .unset, .val (.ref la), .val (.ref (T.2.2.1 0)), .val (.int (-1 : Int32)), .unset, .unset, .unset] [(.int (14 : Int32))]
          refine Go.istore C at_118 (L' := #[.val (.int x0), .val (.int x1), .val (.int x2), .val (.int x3), .val (.int (x0 &&& (3 : Int32))), .val (.int (x3 &&& 255)), .val (.int (1 : Int32)), .unset, .unset, .val (.ref la), .val (.ref (T.2.2.1 0)), .val (.int (-1 : Int32)), .val (.int (14 : Int32)), .unset, .unset]) rfl (pc' := 120) rfl ?_
          refine Go.iloadN C at_120 rfl (pc' := 121) rfl ?_
          refine Go.ldcInt C at_121 (hw _ (List.mem_of_getElem? (i := 11) rfl)) (pc' := 123) rfl ?_
          refine Go.iand C at_123 (pc' := 124) rfl ?_
          refine Go.iload C at_124 rfl (pc' := 126) rfl ?_
          refine Go.irem C at_126 (by decide) (pc' := 127) rfl ?_
          obtain ⟨P, hP, eP⟩ := own_rem 14 (by decide) (by decide) x2 14 rfl
          rw [eP]
          show Go p l e room_1 s m #[.int x0, .int x1, .int x2, .int x3] below meth c Z "com/example/llave/llave/policy/ObjectiveOfPinLaw" n0 _ (EnW s room_1 n0 Z consts_1 (fun v _ => v = some (.int 1))) _ _ _ 127 #[.val (.int x0), .val (.int x1), .val (.int x2), .val (.int x3), .val (.int (x0 &&& (3 : Int32))), .val (.int (x3 &&& 255)), .val (.int (1 : Int32)), .unset, .unset, .val (.ref la), .val (.ref (T.2.2.1 0)), .val (.int (-1 : Int32)), .val (.int (14 : Int32)), .unset, .unset] [(.int (Int32.ofNat P))]
          refine Go.istore C at_127 (L' := #[.val (.int x0), .val (.int x1), .val (.int x2), .val (.int x3), .val (.int (x0 &&& (3 : Int32))), .val (.int (x3 &&& 255)), .val (.int (1 : Int32)), .unset, .unset, .val (.ref la), .val (.ref (T.2.2.1 0)), .val (.int (-1 : Int32)), .val (.int (14 : Int32)), .val (.int (Int32.ofNat P)), .unset]) rfl (pc' := 129) rfl ?_
          refine Go.iload C at_129 rfl (pc' := 131) rfl ?_
          refine Go.if_eq_f C at_131 (by decide) (pc' := 134) rfl ?_
          refine Go.aload C at_134 rfl rfl (pc' := 136) rfl ?_
          refine Go.iload C at_136 rfl (pc' := 138) rfl ?_
          refine Go.iload C at_138 rfl (pc' := 140) rfl ?_
          refine Go.iload C at_140 rfl (pc' := 142) rfl ?_
          show Go p l e room_1 s m #[.int x0, .int x1, .int x2, .int x3] below meth c Z "com/example/llave/llave/policy/ObjectiveOfPinLaw" n0 _ (EnW s room_1 n0 Z consts_1 (fun v _ => v = some (.int 1))) h1 _ _ 142 #[.val (.int x0), .val (.int x1), .val (.int x2), .val (.int x3), .val (.int (x0 &&& (3 : Int32))), .val (.int (x3 &&& 255)), .val (.int (1 : Int32)), .unset, .unset, .val (.ref la), .val (.ref (T.2.2.1 0)), .val (.int (-1 : Int32)), .val (.int (14 : Int32)), .val (.int (Int32.ofNat P)), .unset] [(.int (x3 &&& 255)), (.int (Int32.ofNat P)), (.int (Int32.ofNat 14)), (.ref la)]
          refine Go.callS C at_142 (hw _ (List.mem_of_getElem? (i := 121) rfl)) (hw _ (List.mem_of_getElem? (i := 122) rfl)) (hw _ (List.mem_of_getElem? (i := 27) rfl)) (hw _ (List.mem_of_getElem? (i := 123) rfl)) (by decide) (argsL := [(.ref la), (.int (Int32.ofNat 14)), (.int (Int32.ofNat P)), (.int (x3 &&& 255))]) (rest := []) rfl (lenOf pd__Ljava_lang_String_IIC_Ljava_lang_String_ rfl) rfl (W := 0) (Nat.le_of_ble_eq_true rfl) (Ct.pay (rm_mutate l Z a0 hw la lb lk (own_W 0) 14 P x3 z fm h1 n0 Z1 S1 (by decide) (by decide) hP (by decide) St hz Fm rf O1) (hw _ (List.mem_of_getElem? (i := 123) rfl)) (hw _ (List.mem_of_getElem? (i := 27) rfl)) (by decide) (by decide)) (fun _ _ _ q => q.2) (by decide) (by decide) (fun _ _ _ _ q b => by obtain ⟨⟨_, _, _, _, K, _⟩, _⟩ := q; exact Bw.keep K (by simp) b) (pc' := 145) rfl ?_
          rintro _ h2 L2 ⟨⟨sa, ta, ks, rfl, K2, S2⟩, -⟩
          show Go p l e room_1 s m #[.int x0, .int x1, .int x2, .int x3] below meth c Z "com/example/llave/llave/policy/ObjectiveOfPinLaw" n0 _ (EnW s room_1 n0 Z consts_1 (fun v _ => v = some (.int 1))) _ _ _ 145 #[.val (.int x0), .val (.int x1), .val (.int x2), .val (.int x3), .val (.int (x0 &&& (3 : Int32))), .val (.int (x3 &&& 255)), .val (.int (1 : Int32)), .unset, .unset, .val (.ref la), .val (.ref (T.2.2.1 0)), .val (.int (-1 : Int32)), .val (.int (14 : Int32)), .val (.int (Int32.ofNat P)), .unset] [(.ref sa)]
          have O2 := O1.keep K2 all0
          have Z2 := Nat.le_trans Z1 K2.1
          have S1' := S1.keep K2 nin0 nin0
          refine Go.astore C at_145 rfl (L' := #[.val (.int x0), .val (.int x1), .val (.int x2), .val (.int x3), .val (.int (x0 &&& (3 : Int32))), .val (.int (x3 &&& 255)), .val (.int (1 : Int32)), .val (.ref sa), .unset, .val (.ref la), .val (.ref (T.2.2.1 0)), .val (.int (-1 : Int32)), .val (.int (14 : Int32)), .val (.int (Int32.ofNat P)), .unset]) rfl (pc' := 147) rfl ?_
          refine Go.iload C at_147 rfl (pc' := 149) rfl ?_
          refine Go.if_ne_t C at_149 (by decide) (by decide) (pc' := 168) (by decide) ?_
          refine Go.iconst C at_168 (v := 0) rfl (pc' := 169) rfl ?_
          refine Go.istore C at_169 (L' := #[.val (.int x0), .val (.int x1), .val (.int x2), .val (.int x3), .val (.int (x0 &&& (3 : Int32))), .val (.int (x3 &&& 255)), .val (.int (1 : Int32)), .val (.ref sa), .unset, .val (.ref la), .val (.ref (T.2.2.1 0)), .val (.int (-1 : Int32)), .val (.int (14 : Int32)), .val (.int (Int32.ofNat P)), .val (.int (0 : Int32))]) rfl (pc' := 171) rfl ?_
          refine Go.goto C at_171 (by decide) (pc' := 197) (by decide) ?_
          refine Go.iload C at_197 rfl (pc' := 199) rfl ?_
          refine Go.if_eq_t C at_199 (by decide) (by decide) (pc' := 207) (by decide) ?_
          refine Go.aconstNull C at_207 (pc' := 208) rfl ?_
          refine Go.astore C at_208 rfl (L' := #[.val (.int x0), .val (.int x1), .val (.int x2), .val (.int x3), .val (.int (x0 &&& (3 : Int32))), .val (.int (x3 &&& 255)), .val (.int (1 : Int32)), .val (.ref sa), .val .null, .val (.ref la), .val (.ref (T.2.2.1 0)), .val (.int (-1 : Int32)), .val (.int (14 : Int32)), .val (.int (Int32.ofNat P)), .val (.int (0 : Int32))]) rfl (pc' := 210) rfl ?_
          refine Go.aload C at_210 rfl rfl (pc' := 212) rfl ?_
          refine Go.callS C at_212 (hw _ (List.mem_of_getElem? (i := 76) rfl)) (hw _ (List.mem_of_getElem? (i := 77) rfl)) (hw _ (List.mem_of_getElem? (i := 9) rfl)) (hw _ (List.mem_of_getElem? (i := 78) rfl)) (by decide) (argsL := [(.ref sa)]) (rest := []) rfl (lenOf pd__Ljava_lang_String__Ljava_util_Optional_ rfl) rfl (W := 0) (Nat.le_of_ble_eq_true rfl) (Ct.pay (rm_ofs l Z a0 hw sa ta ks ((own_fill (own_W 0) (x3 &&& 255) 14 16).set P (x3 &&& 255)) T z h2 n0 Z2 O2 GT St hz S2) (hw _ (List.mem_of_getElem? (i := 78) rfl)) (hw _ (List.mem_of_getElem? (i := 9) rfl)) (by decide) (by decide)) (fun _ _ _ q => q.2) (by decide) (by decide) (fun _ _ _ _ q b => by obtain ⟨⟨_, _, K, _⟩, _⟩ := q; exact Bw.keep K (by simp) b) (pc' := 215) rfl ?_
          rintro _ h9 L9 ⟨⟨f9, rfl, K9, A9, F9⟩, -⟩
          show Go p l e room_1 s m #[.int x0, .int x1, .int x2, .int x3] below meth c Z "com/example/llave/llave/policy/ObjectiveOfPinLaw" n0 _ (EnW s room_1 n0 Z consts_1 (fun v _ => v = some (.int 1))) _ _ _ 215 #[.val (.int x0), .val (.int x1), .val (.int x2), .val (.int x3), .val (.int (x0 &&& (3 : Int32))), .val (.int (x3 &&& 255)), .val (.int (1 : Int32)), .val (.ref sa), .val .null, .val (.ref la), .val (.ref (T.2.2.1 0)), .val (.int (-1 : Int32)), .val (.int (14 : Int32)), .val (.int (Int32.ofNat P)), .val (.int (0 : Int32))] [(.ref f9)]
          rw [own_none T.2.2.1 ((own_fill (own_W 0) (x3 &&& 255) 14 16).set P (x3 &&& 255)) (by simp [own_len])] at F9
          refine Go.aconstNull C at_215 (pc' := 216) rfl ?_
          refine Go.callV C at_216 (hw _ (List.mem_of_getElem? (i := 112) rfl)) (hw _ (List.mem_of_getElem? (i := 113) rfl)) (hw _ (List.mem_of_getElem? (i := 115) rfl)) (hw _ (List.mem_of_getElem? (i := 114) rfl)) (fun st hZ => notFace_of_selects (args := #[]) (mvT hZ (hw _ (List.mem_of_getElem? (i := 115) rfl)))) (by decide) A9 (argsL := [.null]) (rest := []) rfl (lenOf pd__Ljava_lang_Object__Ljava_lang_Object_ rfl) rfl (W := 0) (Nat.le_of_ble_eq_true rfl) (Ct.pay (rm_els l Z a0 hw f9 .null h9 n0 F9 (Or.inl rfl)) (hw _ (List.mem_of_getElem? (i := 116) rfl)) (hw _ (List.mem_of_getElem? (i := 81) rfl)) (by decide) (by decide)) (fun _ _ _ q => q.2) (by decide) (by decide) (fun _ _ _ _ q b => by obtain ⟨⟨_, rfl⟩, _⟩ := q; exact b) (pc' := 219) rfl ?_
          rintro _ _ L10 ⟨⟨rfl, rfl⟩, -⟩
          show Go p l e room_1 s m #[.int x0, .int x1, .int x2, .int x3] below meth c Z "com/example/llave/llave/policy/ObjectiveOfPinLaw" n0 _ (EnW s room_1 n0 Z consts_1 (fun v _ => v = some (.int 1))) _ _ _ 219 #[.val (.int x0), .val (.int x1), .val (.int x2), .val (.int x3), .val (.int (x0 &&& (3 : Int32))), .val (.int (x3 &&& 255)), .val (.int (1 : Int32)), .val (.ref sa), .val .null, .val (.ref la), .val (.ref (T.2.2.1 0)), .val (.int (-1 : Int32)), .val (.int (14 : Int32)), .val (.int (Int32.ofNat P)), .val (.int (0 : Int32))] [.null]
          refine Go.castNull C at_219 (pc' := 222) rfl ?_
          refine Go.astore C at_222 rfl (L' := #[.val (.int x0), .val (.int x1), .val (.int x2), .val (.int x3), .val (.int (x0 &&& (3 : Int32))), .val (.int (x3 &&& 255)), .val (.int (1 : Int32)), .val (.ref sa), .val .null, .val .null, .val (.ref (T.2.2.1 0)), .val (.int (-1 : Int32)), .val (.int (14 : Int32)), .val (.int (Int32.ofNat P)), .val (.int (0 : Int32))]) rfl (pc' := 224) rfl ?_
          refine Go.aload C at_224 rfl rfl (pc' := 226) rfl ?_
          refine Go.aload C at_226 rfl rfl (pc' := 228) rfl ?_
          refine Go.acmp_ne_f C at_228 rfl rfl rfl (by decide) (pc' := 231) rfl ?_
          refine Go.iconst C at_231 (v := 1) rfl (pc' := 232) rfl ?_
          refine Go.goto C at_232 (by decide) (pc' := 236) (by decide) ?_
          refine Go.retNW C hEL (by simp) at_236 (by decide) (by decide) ?_
          exact rfl
        · rw [ed]
          show Go p l e room_1 s m #[.int x0, .int x1, .int x2, .int x3] below meth c Z "com/example/llave/llave/policy/ObjectiveOfPinLaw" n0 _ (EnW s room_1 n0 Z consts_1 (fun v _ => v = some (.int 1))) _ _ _ 106 #[.val (.int x0), .val (.int x1), .val (.int x2), .val (.int x3), .val (.int (x0 &&& (3 : Int32))), .val (.int (x3 &&& 255)), .val (.int (1 : Int32)), .unset, .unset, .val (.ref la), .val (.ref (T.2.2.1 0)), .unset, .unset, .unset, .unset] [(.int (1 : Int32))]
          refine Go.iconst C at_106 (v := 1) rfl (pc' := 107) rfl ?_
          refine Go.isub C at_107 (pc' := 108) rfl ?_
          show Go p l e room_1 s m #[.int x0, .int x1, .int x2, .int x3] below meth c Z "com/example/llave/llave/policy/ObjectiveOfPinLaw" n0 _ (EnW s room_1 n0 Z consts_1 (fun v _ => v = some (.int 1))) _ _ _ 108 #[.val (.int x0), .val (.int x1), .val (.int x2), .val (.int x3), .val (.int (x0 &&& (3 : Int32))), .val (.int (x3 &&& 255)), .val (.int (1 : Int32)), .unset, .unset, .val (.ref la), .val (.ref (T.2.2.1 0)), .unset, .unset, .unset, .unset] [(.int (0 : Int32))]
          refine Go.istore C at_108 (L' := #[.val (.int x0), .val (.int x1), .val (.int x2), .val (.int x3), .val (.int (x0 &&& (3 : Int32))), .val (.int (x3 &&& 255)), .val (.int (1 : Int32)), .unset, .unset, .val (.ref la), .val (.ref (T.2.2.1 0)), .val (.int (0 : Int32)), .unset, .unset, .unset]) rfl (pc' := 110) rfl ?_
          refine Go.aload C at_110 rfl rfl (pc' := 112) rfl ?_
          refine Go.callV C at_112 (hw _ (List.mem_of_getElem? (i := 12) rfl)) (hw _ (List.mem_of_getElem? (i := 13) rfl)) (hw _ (List.mem_of_getElem? (i := 15) rfl)) (hw _ (List.mem_of_getElem? (i := 14) rfl)) (fun st hZ => notFace_of_selects (args := #[]) (mvT hZ (hw _ (List.mem_of_getElem? (i := 15) rfl)))) (by decide) S1.1 (argsL := []) (rest := []) rfl (lenOf pd___I rfl) rfl (W := 0) (Nat.le_of_ble_eq_true rfl) (own_lenP hw S1 (St.ext O1.2) hz (by decide) (by decide)) (fun _ _ _ q => q.2) (by decide) (by decide) (fun _ _ _ _ q b => by obtain ⟨⟨_, rfl⟩, _⟩ := q; exact b) (pc' := 115) rfl ?_
          rintro _ _ L1 ⟨⟨rfl, rfl⟩, -⟩
          show Go p l e room_1 s m #[.int x0, .int x1, .int x2, .int x3] below meth c Z "com/example/llave/llave/policy/ObjectiveOfPinLaw" n0 _ (EnW s room_1 n0 Z consts_1 (fun v _ => v = some (.int 1))) _ _ _ 115 #[.val (.int x0), .val (.int x1), .val (.int x2), .val (.int x3), .val (.int (x0 &&& (3 : Int32))), .val (.int (x3 &&& 255)), .val (.int (1 : Int32)), .unset, .unset, .val (.ref la), .val (.ref (T.2.2.1 0)), .val (.int (0 : Int32)), .unset, .unset, .unset] [(.int (15 : Int32))]
          refine Go.iload C at_115 rfl (pc' := 117) rfl ?_
          refine Go.iadd C at_117 (pc' := 118) rfl ?_
          show Go p l e room_1 s m #[.int x0, .int x1, .int x2, .int x3] below meth c Z "com/example/llave/llave/policy/ObjectiveOfPinLaw" n0 _ (EnW s room_1 n0 Z consts_1 (fun v _ => v = some (.int 1))) _ _ _ 118 #[.val (.int x0), .val (.int x1), .val (.int x2), .val (.int x3), .val (.int (x0 &&& (3 : Int32))), .val (.int (x3 &&& 255)), .val (.int (1 : Int32)), .unset, .unset, .val (.ref la), .val (.ref (T.2.2.1 0)), .val (.int (0 : Int32)), .unset, .unset, .unset] [(.int (15 : Int32))]
          refine Go.istore C at_118 (L' := #[.val (.int x0), .val (.int x1), .val (.int x2), .val (.int x3), .val (.int (x0 &&& (3 : Int32))), .val (.int (x3 &&& 255)), .val (.int (1 : Int32)), .unset, .unset, .val (.ref la), .val (.ref (T.2.2.1 0)), .val (.int (0 : Int32)), .val (.int (15 : Int32)), .unset, .unset]) rfl (pc' := 120) rfl ?_
          refine Go.iloadN C at_120 rfl (pc' := 121) rfl ?_
          refine Go.ldcInt C at_121 (hw _ (List.mem_of_getElem? (i := 11) rfl)) (pc' := 123) rfl ?_
          refine Go.iand C at_123 (pc' := 124) rfl ?_
          refine Go.iload C at_124 rfl (pc' := 126) rfl ?_
          refine Go.irem C at_126 (by decide) (pc' := 127) rfl ?_
          obtain ⟨P, hP, eP⟩ := own_rem 15 (by decide) (by decide) x2 15 rfl
          rw [eP]
          show Go p l e room_1 s m #[.int x0, .int x1, .int x2, .int x3] below meth c Z "com/example/llave/llave/policy/ObjectiveOfPinLaw" n0 _ (EnW s room_1 n0 Z consts_1 (fun v _ => v = some (.int 1))) _ _ _ 127 #[.val (.int x0), .val (.int x1), .val (.int x2), .val (.int x3), .val (.int (x0 &&& (3 : Int32))), .val (.int (x3 &&& 255)), .val (.int (1 : Int32)), .unset, .unset, .val (.ref la), .val (.ref (T.2.2.1 0)), .val (.int (0 : Int32)), .val (.int (15 : Int32)), .unset, .unset] [(.int (Int32.ofNat P))]
          refine Go.istore C at_127 (L' := #[.val (.int x0), .val (.int x1), .val (.int x2), .val (.int x3), .val (.int (x0 &&& (3 : Int32))), .val (.int (x3 &&& 255)), .val (.int (1 : Int32)), .unset, .unset, .val (.ref la), .val (.ref (T.2.2.1 0)), .val (.int (0 : Int32)), .val (.int (15 : Int32)), .val (.int (Int32.ofNat P)), .unset]) rfl (pc' := 129) rfl ?_
          refine Go.iload C at_129 rfl (pc' := 131) rfl ?_
          refine Go.if_eq_f C at_131 (by decide) (pc' := 134) rfl ?_
          refine Go.aload C at_134 rfl rfl (pc' := 136) rfl ?_
          refine Go.iload C at_136 rfl (pc' := 138) rfl ?_
          refine Go.iload C at_138 rfl (pc' := 140) rfl ?_
          refine Go.iload C at_140 rfl (pc' := 142) rfl ?_
          show Go p l e room_1 s m #[.int x0, .int x1, .int x2, .int x3] below meth c Z "com/example/llave/llave/policy/ObjectiveOfPinLaw" n0 _ (EnW s room_1 n0 Z consts_1 (fun v _ => v = some (.int 1))) h1 _ _ 142 #[.val (.int x0), .val (.int x1), .val (.int x2), .val (.int x3), .val (.int (x0 &&& (3 : Int32))), .val (.int (x3 &&& 255)), .val (.int (1 : Int32)), .unset, .unset, .val (.ref la), .val (.ref (T.2.2.1 0)), .val (.int (0 : Int32)), .val (.int (15 : Int32)), .val (.int (Int32.ofNat P)), .unset] [(.int (x3 &&& 255)), (.int (Int32.ofNat P)), (.int (Int32.ofNat 15)), (.ref la)]
          refine Go.callS C at_142 (hw _ (List.mem_of_getElem? (i := 121) rfl)) (hw _ (List.mem_of_getElem? (i := 122) rfl)) (hw _ (List.mem_of_getElem? (i := 27) rfl)) (hw _ (List.mem_of_getElem? (i := 123) rfl)) (by decide) (argsL := [(.ref la), (.int (Int32.ofNat 15)), (.int (Int32.ofNat P)), (.int (x3 &&& 255))]) (rest := []) rfl (lenOf pd__Ljava_lang_String_IIC_Ljava_lang_String_ rfl) rfl (W := 0) (Nat.le_of_ble_eq_true rfl) (Ct.pay (rm_mutate l Z a0 hw la lb lk (own_W 0) 15 P x3 z fm h1 n0 Z1 S1 (by decide) (by decide) hP (by decide) St hz Fm rf O1) (hw _ (List.mem_of_getElem? (i := 123) rfl)) (hw _ (List.mem_of_getElem? (i := 27) rfl)) (by decide) (by decide)) (fun _ _ _ q => q.2) (by decide) (by decide) (fun _ _ _ _ q b => by obtain ⟨⟨_, _, _, _, K, _⟩, _⟩ := q; exact Bw.keep K (by simp) b) (pc' := 145) rfl ?_
          rintro _ h2 L2 ⟨⟨sa, ta, ks, rfl, K2, S2⟩, -⟩
          show Go p l e room_1 s m #[.int x0, .int x1, .int x2, .int x3] below meth c Z "com/example/llave/llave/policy/ObjectiveOfPinLaw" n0 _ (EnW s room_1 n0 Z consts_1 (fun v _ => v = some (.int 1))) _ _ _ 145 #[.val (.int x0), .val (.int x1), .val (.int x2), .val (.int x3), .val (.int (x0 &&& (3 : Int32))), .val (.int (x3 &&& 255)), .val (.int (1 : Int32)), .unset, .unset, .val (.ref la), .val (.ref (T.2.2.1 0)), .val (.int (0 : Int32)), .val (.int (15 : Int32)), .val (.int (Int32.ofNat P)), .unset] [(.ref sa)]
          have O2 := O1.keep K2 all0
          have Z2 := Nat.le_trans Z1 K2.1
          have S1' := S1.keep K2 nin0 nin0
          refine Go.astore C at_145 rfl (L' := #[.val (.int x0), .val (.int x1), .val (.int x2), .val (.int x3), .val (.int (x0 &&& (3 : Int32))), .val (.int (x3 &&& 255)), .val (.int (1 : Int32)), .val (.ref sa), .unset, .val (.ref la), .val (.ref (T.2.2.1 0)), .val (.int (0 : Int32)), .val (.int (15 : Int32)), .val (.int (Int32.ofNat P)), .unset]) rfl (pc' := 147) rfl ?_
          refine Go.iload C at_147 rfl (pc' := 149) rfl ?_
          refine Go.if_ne_f C at_149 (by decide) (pc' := 152) rfl ?_
          refine Go.iload C at_152 rfl (pc' := 154) rfl ?_
          refine Go.aload C at_154 rfl rfl (pc' := 156) rfl ?_
          refine Go.iload C at_156 rfl (pc' := 158) rfl ?_
          refine Go.callV C at_158 (hw _ (List.mem_of_getElem? (i := 33) rfl)) (hw _ (List.mem_of_getElem? (i := 34) rfl)) (hw _ (List.mem_of_getElem? (i := 36) rfl)) (hw _ (List.mem_of_getElem? (i := 35) rfl)) (fun st hZ => notFace_of_selects (args := #[]) (mvT hZ (hw _ (List.mem_of_getElem? (i := 36) rfl)))) (by decide) S1'.1 (argsL := [(.int (Int32.ofNat P))]) (rest := [(.int (x3 &&& 255))]) rfl (lenOf pd__I_C rfl) rfl (W := 1) (Nat.le_of_ble_eq_true rfl) (own_chP hw S1' (St.ext O2.2) hz (Fm.ext O2.2) rf (i := P) hP rfl (by decide) (by decide)) (fun _ _ _ q => q.2) (by decide) (by decide) (fun _ _ _ _ q b => by obtain ⟨⟨_, rfl⟩, _⟩ := q; exact b) (pc' := 161) rfl ?_
          rintro _ _ L3 ⟨⟨rfl, rfl⟩, -⟩
          show Go p l e room_1 s m #[.int x0, .int x1, .int x2, .int x3] below meth c Z "com/example/llave/llave/policy/ObjectiveOfPinLaw" n0 _ (EnW s room_1 n0 Z consts_1 (fun v _ => v = some (.int 1))) _ _ _ 161 #[.val (.int x0), .val (.int x1), .val (.int x2), .val (.int x3), .val (.int (x0 &&& (3 : Int32))), .val (.int (x3 &&& 255)), .val (.int (1 : Int32)), .val (.ref sa), .unset, .val (.ref la), .val (.ref (T.2.2.1 0)), .val (.int (0 : Int32)), .val (.int (15 : Int32)), .val (.int (Int32.ofNat P)), .unset] [(.int ((own_W 0).getD P 0)), (.int (x3 &&& 255))]
          refine Go.icmp_ne C at_161 (by decide) (pc1 := 168) (by decide) (pc2 := 164) rfl (fun hm => ?_) (fun hm => ?_)
          · refine Go.iconst C at_168 (v := 0) rfl (pc' := 169) rfl ?_
            refine Go.istore C at_169 (L' := #[.val (.int x0), .val (.int x1), .val (.int x2), .val (.int x3), .val (.int (x0 &&& (3 : Int32))), .val (.int (x3 &&& 255)), .val (.int (1 : Int32)), .val (.ref sa), .unset, .val (.ref la), .val (.ref (T.2.2.1 0)), .val (.int (0 : Int32)), .val (.int (15 : Int32)), .val (.int (Int32.ofNat P)), .val (.int (0 : Int32))]) rfl (pc' := 171) rfl ?_
            refine Go.goto C at_171 (by decide) (pc' := 197) (by decide) ?_
            refine Go.iload C at_197 rfl (pc' := 199) rfl ?_
            refine Go.if_eq_t C at_199 (by decide) (by decide) (pc' := 207) (by decide) ?_
            refine Go.aconstNull C at_207 (pc' := 208) rfl ?_
            refine Go.astore C at_208 rfl (L' := #[.val (.int x0), .val (.int x1), .val (.int x2), .val (.int x3), .val (.int (x0 &&& (3 : Int32))), .val (.int (x3 &&& 255)), .val (.int (1 : Int32)), .val (.ref sa), .val .null, .val (.ref la), .val (.ref (T.2.2.1 0)), .val (.int (0 : Int32)), .val (.int (15 : Int32)), .val (.int (Int32.ofNat P)), .val (.int (0 : Int32))]) rfl (pc' := 210) rfl ?_
            refine Go.aload C at_210 rfl rfl (pc' := 212) rfl ?_
            refine Go.callS C at_212 (hw _ (List.mem_of_getElem? (i := 76) rfl)) (hw _ (List.mem_of_getElem? (i := 77) rfl)) (hw _ (List.mem_of_getElem? (i := 9) rfl)) (hw _ (List.mem_of_getElem? (i := 78) rfl)) (by decide) (argsL := [(.ref sa)]) (rest := []) rfl (lenOf pd__Ljava_lang_String__Ljava_util_Optional_ rfl) rfl (W := 0) (Nat.le_of_ble_eq_true rfl) (Ct.pay (rm_ofs l Z a0 hw sa ta ks ((own_fill (own_W 0) (x3 &&& 255) 15 16).set P (x3 &&& 255)) T z h2 n0 Z2 O2 GT St hz S2) (hw _ (List.mem_of_getElem? (i := 78) rfl)) (hw _ (List.mem_of_getElem? (i := 9) rfl)) (by decide) (by decide)) (fun _ _ _ q => q.2) (by decide) (by decide) (fun _ _ _ _ q b => by obtain ⟨⟨_, _, K, _⟩, _⟩ := q; exact Bw.keep K (by simp) b) (pc' := 215) rfl ?_
            rintro _ h9 L9 ⟨⟨f9, rfl, K9, A9, F9⟩, -⟩
            show Go p l e room_1 s m #[.int x0, .int x1, .int x2, .int x3] below meth c Z "com/example/llave/llave/policy/ObjectiveOfPinLaw" n0 _ (EnW s room_1 n0 Z consts_1 (fun v _ => v = some (.int 1))) _ _ _ 215 #[.val (.int x0), .val (.int x1), .val (.int x2), .val (.int x3), .val (.int (x0 &&& (3 : Int32))), .val (.int (x3 &&& 255)), .val (.int (1 : Int32)), .val (.ref sa), .val .null, .val (.ref la), .val (.ref (T.2.2.1 0)), .val (.int (0 : Int32)), .val (.int (15 : Int32)), .val (.int (Int32.ofNat P)), .val (.int (0 : Int32))] [(.ref f9)]
            rw [own_miss0 T.2.2.1 hP hm] at F9
            refine Go.aconstNull C at_215 (pc' := 216) rfl ?_
            refine Go.callV C at_216 (hw _ (List.mem_of_getElem? (i := 112) rfl)) (hw _ (List.mem_of_getElem? (i := 113) rfl)) (hw _ (List.mem_of_getElem? (i := 115) rfl)) (hw _ (List.mem_of_getElem? (i := 114) rfl)) (fun st hZ => notFace_of_selects (args := #[]) (mvT hZ (hw _ (List.mem_of_getElem? (i := 115) rfl)))) (by decide) A9 (argsL := [.null]) (rest := []) rfl (lenOf pd__Ljava_lang_Object__Ljava_lang_Object_ rfl) rfl (W := 0) (Nat.le_of_ble_eq_true rfl) (Ct.pay (rm_els l Z a0 hw f9 .null h9 n0 F9 (Or.inl rfl)) (hw _ (List.mem_of_getElem? (i := 116) rfl)) (hw _ (List.mem_of_getElem? (i := 81) rfl)) (by decide) (by decide)) (fun _ _ _ q => q.2) (by decide) (by decide) (fun _ _ _ _ q b => by obtain ⟨⟨_, rfl⟩, _⟩ := q; exact b) (pc' := 219) rfl ?_
            rintro _ _ L10 ⟨⟨rfl, rfl⟩, -⟩
            show Go p l e room_1 s m #[.int x0, .int x1, .int x2, .int x3] below meth c Z "com/example/llave/llave/policy/ObjectiveOfPinLaw" n0 _ (EnW s room_1 n0 Z consts_1 (fun v _ => v = some (.int 1))) _ _ _ 219 #[.val (.int x0), .val (.int x1), .val (.int x2), .val (.int x3), .val (.int (x0 &&& (3 : Int32))), .val (.int (x3 &&& 255)), .val (.int (1 : Int32)), .val (.ref sa), .val .null, .val (.ref la), .val (.ref (T.2.2.1 0)), .val (.int (0 : Int32)), .val (.int (15 : Int32)), .val (.int (Int32.ofNat P)), .val (.int (0 : Int32))] [.null]
            refine Go.castNull C at_219 (pc' := 222) rfl ?_
            refine Go.astore C at_222 rfl (L' := #[.val (.int x0), .val (.int x1), .val (.int x2), .val (.int x3), .val (.int (x0 &&& (3 : Int32))), .val (.int (x3 &&& 255)), .val (.int (1 : Int32)), .val (.ref sa), .val .null, .val .null, .val (.ref (T.2.2.1 0)), .val (.int (0 : Int32)), .val (.int (15 : Int32)), .val (.int (Int32.ofNat P)), .val (.int (0 : Int32))]) rfl (pc' := 224) rfl ?_
            refine Go.aload C at_224 rfl rfl (pc' := 226) rfl ?_
            refine Go.aload C at_226 rfl rfl (pc' := 228) rfl ?_
            refine Go.acmp_ne_f C at_228 rfl rfl rfl (by decide) (pc' := 231) rfl ?_
            refine Go.iconst C at_231 (v := 1) rfl (pc' := 232) rfl ?_
            refine Go.goto C at_232 (by decide) (pc' := 236) (by decide) ?_
            refine Go.retNW C hEL (by simp) at_236 (by decide) (by decide) ?_
            exact rfl
          · refine Go.iconst C at_164 (v := 1) rfl (pc' := 165) rfl ?_
            refine Go.goto C at_165 (by decide) (pc' := 169) (by decide) ?_
            refine Go.istore C at_169 (L' := #[.val (.int x0), .val (.int x1), .val (.int x2), .val (.int x3), .val (.int (x0 &&& (3 : Int32))), .val (.int (x3 &&& 255)), .val (.int (1 : Int32)), .val (.ref sa), .unset, .val (.ref la), .val (.ref (T.2.2.1 0)), .val (.int (0 : Int32)), .val (.int (15 : Int32)), .val (.int (Int32.ofNat P)), .val (.int (1 : Int32))]) rfl (pc' := 171) rfl ?_
            refine Go.goto C at_171 (by decide) (pc' := 197) (by decide) ?_
            refine Go.iload C at_197 rfl (pc' := 199) rfl ?_
            refine Go.if_eq_f C at_199 (by decide) (pc' := 202) rfl ?_
            refine Go.aload C at_202 rfl rfl (pc' := 204) rfl ?_
            refine Go.goto C at_204 (by decide) (pc' := 208) (by decide) ?_
            refine Go.astore C at_208 rfl (L' := #[.val (.int x0), .val (.int x1), .val (.int x2), .val (.int x3), .val (.int (x0 &&& (3 : Int32))), .val (.int (x3 &&& 255)), .val (.int (1 : Int32)), .val (.ref sa), .val (.ref (T.2.2.1 0)), .val (.ref la), .val (.ref (T.2.2.1 0)), .val (.int (0 : Int32)), .val (.int (15 : Int32)), .val (.int (Int32.ofNat P)), .val (.int (1 : Int32))]) rfl (pc' := 210) rfl ?_
            refine Go.aload C at_210 rfl rfl (pc' := 212) rfl ?_
            refine Go.callS C at_212 (hw _ (List.mem_of_getElem? (i := 76) rfl)) (hw _ (List.mem_of_getElem? (i := 77) rfl)) (hw _ (List.mem_of_getElem? (i := 9) rfl)) (hw _ (List.mem_of_getElem? (i := 78) rfl)) (by decide) (argsL := [(.ref sa)]) (rest := []) rfl (lenOf pd__Ljava_lang_String__Ljava_util_Optional_ rfl) rfl (W := 0) (Nat.le_of_ble_eq_true rfl) (Ct.pay (rm_ofs l Z a0 hw sa ta ks ((own_fill (own_W 0) (x3 &&& 255) 15 16).set P (x3 &&& 255)) T z h2 n0 Z2 O2 GT St hz S2) (hw _ (List.mem_of_getElem? (i := 78) rfl)) (hw _ (List.mem_of_getElem? (i := 9) rfl)) (by decide) (by decide)) (fun _ _ _ q => q.2) (by decide) (by decide) (fun _ _ _ _ q b => by obtain ⟨⟨_, _, K, _⟩, _⟩ := q; exact Bw.keep K (by simp) b) (pc' := 215) rfl ?_
            rintro _ h9 L9 ⟨⟨f9, rfl, K9, A9, F9⟩, -⟩
            show Go p l e room_1 s m #[.int x0, .int x1, .int x2, .int x3] below meth c Z "com/example/llave/llave/policy/ObjectiveOfPinLaw" n0 _ (EnW s room_1 n0 Z consts_1 (fun v _ => v = some (.int 1))) _ _ _ 215 #[.val (.int x0), .val (.int x1), .val (.int x2), .val (.int x3), .val (.int (x0 &&& (3 : Int32))), .val (.int (x3 &&& 255)), .val (.int (1 : Int32)), .val (.ref sa), .val (.ref (T.2.2.1 0)), .val (.ref la), .val (.ref (T.2.2.1 0)), .val (.int (0 : Int32)), .val (.int (15 : Int32)), .val (.int (Int32.ofNat P)), .val (.int (1 : Int32))] [(.ref f9)]
            rw [own_hit0 T.2.2.1 hP hm] at F9
            refine Go.aconstNull C at_215 (pc' := 216) rfl ?_
            refine Go.callV C at_216 (hw _ (List.mem_of_getElem? (i := 112) rfl)) (hw _ (List.mem_of_getElem? (i := 113) rfl)) (hw _ (List.mem_of_getElem? (i := 115) rfl)) (hw _ (List.mem_of_getElem? (i := 114) rfl)) (fun st hZ => notFace_of_selects (args := #[]) (mvT hZ (hw _ (List.mem_of_getElem? (i := 115) rfl)))) (by decide) A9 (argsL := [.null]) (rest := []) rfl (lenOf pd__Ljava_lang_Object__Ljava_lang_Object_ rfl) rfl (W := 0) (Nat.le_of_ble_eq_true rfl) (Ct.pay (rm_els l Z a0 hw f9 (.ref (T.2.2.1 0)) h9 n0 F9 (Or.inr ⟨_, rfl⟩)) (hw _ (List.mem_of_getElem? (i := 116) rfl)) (hw _ (List.mem_of_getElem? (i := 81) rfl)) (by decide) (by decide)) (fun _ _ _ q => q.2) (by decide) (by decide) (fun _ _ _ _ q b => by obtain ⟨⟨_, rfl⟩, _⟩ := q; exact b) (pc' := 219) rfl ?_
            rintro _ _ L10 ⟨⟨rfl, rfl⟩, -⟩
            show Go p l e room_1 s m #[.int x0, .int x1, .int x2, .int x3] below meth c Z "com/example/llave/llave/policy/ObjectiveOfPinLaw" n0 _ (EnW s room_1 n0 Z consts_1 (fun v _ => v = some (.int 1))) _ _ _ 219 #[.val (.int x0), .val (.int x1), .val (.int x2), .val (.int x3), .val (.int (x0 &&& (3 : Int32))), .val (.int (x3 &&& 255)), .val (.int (1 : Int32)), .val (.ref sa), .val (.ref (T.2.2.1 0)), .val (.ref la), .val (.ref (T.2.2.1 0)), .val (.int (0 : Int32)), .val (.int (15 : Int32)), .val (.int (Int32.ofNat P)), .val (.int (1 : Int32))] [(.ref (T.2.2.1 0))]
            refine Go.castY C at_219 (hw _ (List.mem_of_getElem? (i := 141) rfl)) (Ins.self (((Gj 0).1.ext O2.2).keep K9)) (pc' := 222) rfl ?_
            refine Go.astore C at_222 rfl (L' := #[.val (.int x0), .val (.int x1), .val (.int x2), .val (.int x3), .val (.int (x0 &&& (3 : Int32))), .val (.int (x3 &&& 255)), .val (.int (1 : Int32)), .val (.ref sa), .val (.ref (T.2.2.1 0)), .val (.ref (T.2.2.1 0)), .val (.ref (T.2.2.1 0)), .val (.int (0 : Int32)), .val (.int (15 : Int32)), .val (.int (Int32.ofNat P)), .val (.int (1 : Int32))]) rfl (pc' := 224) rfl ?_
            refine Go.aload C at_224 rfl rfl (pc' := 226) rfl ?_
            refine Go.aload C at_226 rfl rfl (pc' := 228) rfl ?_
            refine Go.acmp_ne_f C at_228 rfl rfl rfl (by decide) (pc' := 231) rfl ?_
            refine Go.iconst C at_231 (v := 1) rfl (pc' := 232) rfl ?_
            refine Go.goto C at_232 (by decide) (pc' := 236) (by decide) ?_
            refine Go.retNW C hEL (by simp) at_236 (by decide) (by decide) ?_
            exact rfl
        · rw [ed]
          show Go p l e room_1 s m #[.int x0, .int x1, .int x2, .int x3] below meth c Z "com/example/llave/llave/policy/ObjectiveOfPinLaw" n0 _ (EnW s room_1 n0 Z consts_1 (fun v _ => v = some (.int 1))) _ _ _ 106 #[.val (.int x0), .val (.int x1), .val (.int x2), .val (.int x3), .val (.int (x0 &&& (3 : Int32))), .val (.int (x3 &&& 255)), .val (.int (1 : Int32)), .unset, .unset, .val (.ref la), .val (.ref (T.2.2.1 0)), .unset, .unset, .unset, .unset] [(.int (2 : Int32))]
          refine Go.iconst C at_106 (v := 1) rfl (pc' := 107) rfl ?_
          refine Go.isub C at_107 (pc' := 108) rfl ?_
          show Go p l e room_1 s m #[.int x0, .int x1, .int x2, .int x3] below meth c Z "com/example/llave/llave/policy/ObjectiveOfPinLaw" n0 _ (EnW s room_1 n0 Z consts_1 (fun v _ => v = some (.int 1))) _ _ _ 108 #[.val (.int x0), .val (.int x1), .val (.int x2), .val (.int x3), .val (.int (x0 &&& (3 : Int32))), .val (.int (x3 &&& 255)), .val (.int (1 : Int32)), .unset, .unset, .val (.ref la), .val (.ref (T.2.2.1 0)), .unset, .unset, .unset, .unset] [(.int (1 : Int32))]
          refine Go.istore C at_108 (L' := #[.val (.int x0), .val (.int x1), .val (.int x2), .val (.int x3), .val (.int (x0 &&& (3 : Int32))), .val (.int (x3 &&& 255)), .val (.int (1 : Int32)), .unset, .unset, .val (.ref la), .val (.ref (T.2.2.1 0)), .val (.int (1 : Int32)), .unset, .unset, .unset]) rfl (pc' := 110) rfl ?_
          refine Go.aload C at_110 rfl rfl (pc' := 112) rfl ?_
          refine Go.callV C at_112 (hw _ (List.mem_of_getElem? (i := 12) rfl)) (hw _ (List.mem_of_getElem? (i := 13) rfl)) (hw _ (List.mem_of_getElem? (i := 15) rfl)) (hw _ (List.mem_of_getElem? (i := 14) rfl)) (fun st hZ => notFace_of_selects (args := #[]) (mvT hZ (hw _ (List.mem_of_getElem? (i := 15) rfl)))) (by decide) S1.1 (argsL := []) (rest := []) rfl (lenOf pd___I rfl) rfl (W := 0) (Nat.le_of_ble_eq_true rfl) (own_lenP hw S1 (St.ext O1.2) hz (by decide) (by decide)) (fun _ _ _ q => q.2) (by decide) (by decide) (fun _ _ _ _ q b => by obtain ⟨⟨_, rfl⟩, _⟩ := q; exact b) (pc' := 115) rfl ?_
          rintro _ _ L1 ⟨⟨rfl, rfl⟩, -⟩
          show Go p l e room_1 s m #[.int x0, .int x1, .int x2, .int x3] below meth c Z "com/example/llave/llave/policy/ObjectiveOfPinLaw" n0 _ (EnW s room_1 n0 Z consts_1 (fun v _ => v = some (.int 1))) _ _ _ 115 #[.val (.int x0), .val (.int x1), .val (.int x2), .val (.int x3), .val (.int (x0 &&& (3 : Int32))), .val (.int (x3 &&& 255)), .val (.int (1 : Int32)), .unset, .unset, .val (.ref la), .val (.ref (T.2.2.1 0)), .val (.int (1 : Int32)), .unset, .unset, .unset] [(.int (15 : Int32))]
          refine Go.iload C at_115 rfl (pc' := 117) rfl ?_
          refine Go.iadd C at_117 (pc' := 118) rfl ?_
          show Go p l e room_1 s m #[.int x0, .int x1, .int x2, .int x3] below meth c Z "com/example/llave/llave/policy/ObjectiveOfPinLaw" n0 _ (EnW s room_1 n0 Z consts_1 (fun v _ => v = some (.int 1))) _ _ _ 118 #[.val (.int x0), .val (.int x1), .val (.int x2), .val (.int x3), .val (.int (x0 &&& (3 : Int32))), .val (.int (x3 &&& 255)), .val (.int (1 : Int32)), .unset, .unset, .val (.ref la), .val (.ref (T.2.2.1 0)), .val (.int (1 : Int32)), .unset, .unset, .unset] [(.int (16 : Int32))]
          refine Go.istore C at_118 (L' := #[.val (.int x0), .val (.int x1), .val (.int x2), .val (.int x3), .val (.int (x0 &&& (3 : Int32))), .val (.int (x3 &&& 255)), .val (.int (1 : Int32)), .unset, .unset, .val (.ref la), .val (.ref (T.2.2.1 0)), .val (.int (1 : Int32)), .val (.int (16 : Int32)), .unset, .unset]) rfl (pc' := 120) rfl ?_
          refine Go.iloadN C at_120 rfl (pc' := 121) rfl ?_
          refine Go.ldcInt C at_121 (hw _ (List.mem_of_getElem? (i := 11) rfl)) (pc' := 123) rfl ?_
          refine Go.iand C at_123 (pc' := 124) rfl ?_
          refine Go.iload C at_124 rfl (pc' := 126) rfl ?_
          refine Go.irem C at_126 (by decide) (pc' := 127) rfl ?_
          obtain ⟨P, hP, eP⟩ := own_rem 16 (by decide) (by decide) x2 16 rfl
          rw [eP]
          show Go p l e room_1 s m #[.int x0, .int x1, .int x2, .int x3] below meth c Z "com/example/llave/llave/policy/ObjectiveOfPinLaw" n0 _ (EnW s room_1 n0 Z consts_1 (fun v _ => v = some (.int 1))) _ _ _ 127 #[.val (.int x0), .val (.int x1), .val (.int x2), .val (.int x3), .val (.int (x0 &&& (3 : Int32))), .val (.int (x3 &&& 255)), .val (.int (1 : Int32)), .unset, .unset, .val (.ref la), .val (.ref (T.2.2.1 0)), .val (.int (1 : Int32)), .val (.int (16 : Int32)), .unset, .unset] [(.int (Int32.ofNat P))]
          refine Go.istore C at_127 (L' := #[.val (.int x0), .val (.int x1), .val (.int x2), .val (.int x3), .val (.int (x0 &&& (3 : Int32))), .val (.int (x3 &&& 255)), .val (.int (1 : Int32)), .unset, .unset, .val (.ref la), .val (.ref (T.2.2.1 0)), .val (.int (1 : Int32)), .val (.int (16 : Int32)), .val (.int (Int32.ofNat P)), .unset]) rfl (pc' := 129) rfl ?_
          refine Go.iload C at_129 rfl (pc' := 131) rfl ?_
          refine Go.if_eq_f C at_131 (by decide) (pc' := 134) rfl ?_
          refine Go.aload C at_134 rfl rfl (pc' := 136) rfl ?_
          refine Go.iload C at_136 rfl (pc' := 138) rfl ?_
          refine Go.iload C at_138 rfl (pc' := 140) rfl ?_
          refine Go.iload C at_140 rfl (pc' := 142) rfl ?_
          show Go p l e room_1 s m #[.int x0, .int x1, .int x2, .int x3] below meth c Z "com/example/llave/llave/policy/ObjectiveOfPinLaw" n0 _ (EnW s room_1 n0 Z consts_1 (fun v _ => v = some (.int 1))) h1 _ _ 142 #[.val (.int x0), .val (.int x1), .val (.int x2), .val (.int x3), .val (.int (x0 &&& (3 : Int32))), .val (.int (x3 &&& 255)), .val (.int (1 : Int32)), .unset, .unset, .val (.ref la), .val (.ref (T.2.2.1 0)), .val (.int (1 : Int32)), .val (.int (16 : Int32)), .val (.int (Int32.ofNat P)), .unset] [(.int (x3 &&& 255)), (.int (Int32.ofNat P)), (.int (Int32.ofNat 16)), (.ref la)]
          refine Go.callS C at_142 (hw _ (List.mem_of_getElem? (i := 121) rfl)) (hw _ (List.mem_of_getElem? (i := 122) rfl)) (hw _ (List.mem_of_getElem? (i := 27) rfl)) (hw _ (List.mem_of_getElem? (i := 123) rfl)) (by decide) (argsL := [(.ref la), (.int (Int32.ofNat 16)), (.int (Int32.ofNat P)), (.int (x3 &&& 255))]) (rest := []) rfl (lenOf pd__Ljava_lang_String_IIC_Ljava_lang_String_ rfl) rfl (W := 0) (Nat.le_of_ble_eq_true rfl) (Ct.pay (rm_mutate l Z a0 hw la lb lk (own_W 0) 16 P x3 z fm h1 n0 Z1 S1 (by decide) (by decide) hP (by decide) St hz Fm rf O1) (hw _ (List.mem_of_getElem? (i := 123) rfl)) (hw _ (List.mem_of_getElem? (i := 27) rfl)) (by decide) (by decide)) (fun _ _ _ q => q.2) (by decide) (by decide) (fun _ _ _ _ q b => by obtain ⟨⟨_, _, _, _, K, _⟩, _⟩ := q; exact Bw.keep K (by simp) b) (pc' := 145) rfl ?_
          rintro _ h2 L2 ⟨⟨sa, ta, ks, rfl, K2, S2⟩, -⟩
          show Go p l e room_1 s m #[.int x0, .int x1, .int x2, .int x3] below meth c Z "com/example/llave/llave/policy/ObjectiveOfPinLaw" n0 _ (EnW s room_1 n0 Z consts_1 (fun v _ => v = some (.int 1))) _ _ _ 145 #[.val (.int x0), .val (.int x1), .val (.int x2), .val (.int x3), .val (.int (x0 &&& (3 : Int32))), .val (.int (x3 &&& 255)), .val (.int (1 : Int32)), .unset, .unset, .val (.ref la), .val (.ref (T.2.2.1 0)), .val (.int (1 : Int32)), .val (.int (16 : Int32)), .val (.int (Int32.ofNat P)), .unset] [(.ref sa)]
          have O2 := O1.keep K2 all0
          have Z2 := Nat.le_trans Z1 K2.1
          have S1' := S1.keep K2 nin0 nin0
          refine Go.astore C at_145 rfl (L' := #[.val (.int x0), .val (.int x1), .val (.int x2), .val (.int x3), .val (.int (x0 &&& (3 : Int32))), .val (.int (x3 &&& 255)), .val (.int (1 : Int32)), .val (.ref sa), .unset, .val (.ref la), .val (.ref (T.2.2.1 0)), .val (.int (1 : Int32)), .val (.int (16 : Int32)), .val (.int (Int32.ofNat P)), .unset]) rfl (pc' := 147) rfl ?_
          refine Go.iload C at_147 rfl (pc' := 149) rfl ?_
          refine Go.if_ne_t C at_149 (by decide) (by decide) (pc' := 168) (by decide) ?_
          refine Go.iconst C at_168 (v := 0) rfl (pc' := 169) rfl ?_
          refine Go.istore C at_169 (L' := #[.val (.int x0), .val (.int x1), .val (.int x2), .val (.int x3), .val (.int (x0 &&& (3 : Int32))), .val (.int (x3 &&& 255)), .val (.int (1 : Int32)), .val (.ref sa), .unset, .val (.ref la), .val (.ref (T.2.2.1 0)), .val (.int (1 : Int32)), .val (.int (16 : Int32)), .val (.int (Int32.ofNat P)), .val (.int (0 : Int32))]) rfl (pc' := 171) rfl ?_
          refine Go.goto C at_171 (by decide) (pc' := 197) (by decide) ?_
          refine Go.iload C at_197 rfl (pc' := 199) rfl ?_
          refine Go.if_eq_t C at_199 (by decide) (by decide) (pc' := 207) (by decide) ?_
          refine Go.aconstNull C at_207 (pc' := 208) rfl ?_
          refine Go.astore C at_208 rfl (L' := #[.val (.int x0), .val (.int x1), .val (.int x2), .val (.int x3), .val (.int (x0 &&& (3 : Int32))), .val (.int (x3 &&& 255)), .val (.int (1 : Int32)), .val (.ref sa), .val .null, .val (.ref la), .val (.ref (T.2.2.1 0)), .val (.int (1 : Int32)), .val (.int (16 : Int32)), .val (.int (Int32.ofNat P)), .val (.int (0 : Int32))]) rfl (pc' := 210) rfl ?_
          refine Go.aload C at_210 rfl rfl (pc' := 212) rfl ?_
          refine Go.callS C at_212 (hw _ (List.mem_of_getElem? (i := 76) rfl)) (hw _ (List.mem_of_getElem? (i := 77) rfl)) (hw _ (List.mem_of_getElem? (i := 9) rfl)) (hw _ (List.mem_of_getElem? (i := 78) rfl)) (by decide) (argsL := [(.ref sa)]) (rest := []) rfl (lenOf pd__Ljava_lang_String__Ljava_util_Optional_ rfl) rfl (W := 0) (Nat.le_of_ble_eq_true rfl) (Ct.pay (rm_ofs l Z a0 hw sa ta ks ((own_fill (own_W 0) (x3 &&& 255) 16 16).set P (x3 &&& 255)) T z h2 n0 Z2 O2 GT St hz S2) (hw _ (List.mem_of_getElem? (i := 78) rfl)) (hw _ (List.mem_of_getElem? (i := 9) rfl)) (by decide) (by decide)) (fun _ _ _ q => q.2) (by decide) (by decide) (fun _ _ _ _ q b => by obtain ⟨⟨_, _, K, _⟩, _⟩ := q; exact Bw.keep K (by simp) b) (pc' := 215) rfl ?_
          rintro _ h9 L9 ⟨⟨f9, rfl, K9, A9, F9⟩, -⟩
          show Go p l e room_1 s m #[.int x0, .int x1, .int x2, .int x3] below meth c Z "com/example/llave/llave/policy/ObjectiveOfPinLaw" n0 _ (EnW s room_1 n0 Z consts_1 (fun v _ => v = some (.int 1))) _ _ _ 215 #[.val (.int x0), .val (.int x1), .val (.int x2), .val (.int x3), .val (.int (x0 &&& (3 : Int32))), .val (.int (x3 &&& 255)), .val (.int (1 : Int32)), .val (.ref sa), .val .null, .val (.ref la), .val (.ref (T.2.2.1 0)), .val (.int (1 : Int32)), .val (.int (16 : Int32)), .val (.int (Int32.ofNat P)), .val (.int (0 : Int32))] [(.ref f9)]
          rw [own_none T.2.2.1 ((own_fill (own_W 0) (x3 &&& 255) 16 16).set P (x3 &&& 255)) (by simp [own_len])] at F9
          refine Go.aconstNull C at_215 (pc' := 216) rfl ?_
          refine Go.callV C at_216 (hw _ (List.mem_of_getElem? (i := 112) rfl)) (hw _ (List.mem_of_getElem? (i := 113) rfl)) (hw _ (List.mem_of_getElem? (i := 115) rfl)) (hw _ (List.mem_of_getElem? (i := 114) rfl)) (fun st hZ => notFace_of_selects (args := #[]) (mvT hZ (hw _ (List.mem_of_getElem? (i := 115) rfl)))) (by decide) A9 (argsL := [.null]) (rest := []) rfl (lenOf pd__Ljava_lang_Object__Ljava_lang_Object_ rfl) rfl (W := 0) (Nat.le_of_ble_eq_true rfl) (Ct.pay (rm_els l Z a0 hw f9 .null h9 n0 F9 (Or.inl rfl)) (hw _ (List.mem_of_getElem? (i := 116) rfl)) (hw _ (List.mem_of_getElem? (i := 81) rfl)) (by decide) (by decide)) (fun _ _ _ q => q.2) (by decide) (by decide) (fun _ _ _ _ q b => by obtain ⟨⟨_, rfl⟩, _⟩ := q; exact b) (pc' := 219) rfl ?_
          rintro _ _ L10 ⟨⟨rfl, rfl⟩, -⟩
          show Go p l e room_1 s m #[.int x0, .int x1, .int x2, .int x3] below meth c Z "com/example/llave/llave/policy/ObjectiveOfPinLaw" n0 _ (EnW s room_1 n0 Z consts_1 (fun v _ => v = some (.int 1))) _ _ _ 219 #[.val (.int x0), .val (.int x1), .val (.int x2), .val (.int x3), .val (.int (x0 &&& (3 : Int32))), .val (.int (x3 &&& 255)), .val (.int (1 : Int32)), .val (.ref sa), .val .null, .val (.ref la), .val (.ref (T.2.2.1 0)), .val (.int (1 : Int32)), .val (.int (16 : Int32)), .val (.int (Int32.ofNat P)), .val (.int (0 : Int32))] [.null]
          refine Go.castNull C at_219 (pc' := 222) rfl ?_
          refine Go.astore C at_222 rfl (L' := #[.val (.int x0), .val (.int x1), .val (.int x2), .val (.int x3), .val (.int (x0 &&& (3 : Int32))), .val (.int (x3 &&& 255)), .val (.int (1 : Int32)), .val (.ref sa), .val .null, .val .null, .val (.ref (T.2.2.1 0)), .val (.int (1 : Int32)), .val (.int (16 : Int32)), .val (.int (Int32.ofNat P)), .val (.int (0 : Int32))]) rfl (pc' := 224) rfl ?_
          refine Go.aload C at_224 rfl rfl (pc' := 226) rfl ?_
          refine Go.aload C at_226 rfl rfl (pc' := 228) rfl ?_
          refine Go.acmp_ne_f C at_228 rfl rfl rfl (by decide) (pc' := 231) rfl ?_
          refine Go.iconst C at_231 (v := 1) rfl (pc' := 232) rfl ?_
          refine Go.goto C at_232 (by decide) (pc' := 236) (by decide) ?_
          refine Go.retNW C hEL (by simp) at_236 (by decide) (by decide) ?_
          exact rfl
    · refine Go.iloadN C at_34 rfl (pc' := 35) rfl ?_
      refine Go.iconst C at_35 (v := 1) rfl (pc' := 36) rfl ?_
      refine Go.iand C at_36 (pc' := 37) rfl ?_
      refine Go.if_eq C at_37 (by decide) (pc1 := 46) (by decide) (pc2 := 40) rfl (fun h1 => ?_) (fun h1 => ?_)
      · refine Go.ldcW C at_46 (hw _ (List.mem_of_getElem? (i := 126) rfl)) own_sa hEL (by decide) (vs := (([] : List Int32).map fun c => c.toInt8.toInt32).map Value.int) (z := 0) (n := 0) ⟨by decide, by decide⟩ (by decide) (by decide) (by decide) (by decide) (by decide) (by decide) (pc' := 48) rfl ?_
        intro h1 la lb lk X1 A1 C1 V1 Y1 N1
        have S1 : Str Z h1 la lb lk [] := ⟨A1, C1, V1, Y1, by decide, by decide⟩
        have O1 := O0.ext X1
        refine Go.astore C at_48 rfl (L' := #[.val (.int x0), .val (.int x1), .val (.int x2), .val (.int x3), .val (.int (x0 &&& (3 : Int32))), .val (.int (x3 &&& 255)), .val (.int (1 : Int32)), .val (.ref la), .unset, .unset, .unset, .unset, .unset, .unset, .unset]) rfl (pc' := 50) rfl ?_
        refine Go.aconstNull C at_50 (pc' := 51) rfl ?_
        refine Go.astore C at_51 rfl (L' := #[.val (.int x0), .val (.int x1), .val (.int x2), .val (.int x3), .val (.int (x0 &&& (3 : Int32))), .val (.int (x3 &&& 255)), .val (.int (1 : Int32)), .val (.ref la), .val .null, .unset, .unset, .unset, .unset, .unset, .unset]) rfl (pc' := 53) rfl ?_
        refine Go.goto C at_53 (by decide) (pc' := 210) (by decide) ?_
        refine Go.aload C at_210 rfl rfl (pc' := 212) rfl ?_
        refine Go.callS C at_212 (hw _ (List.mem_of_getElem? (i := 76) rfl)) (hw _ (List.mem_of_getElem? (i := 77) rfl)) (hw _ (List.mem_of_getElem? (i := 9) rfl)) (hw _ (List.mem_of_getElem? (i := 78) rfl)) (by decide) (argsL := [(.ref la)]) (rest := []) rfl (lenOf pd__Ljava_lang_String__Ljava_util_Optional_ rfl) rfl (W := 0) (Nat.le_of_ble_eq_true rfl) (Ct.pay (rm_ofs l Z a0 hw la lb lk [] T z h1 n0 (Nat.le_trans Z0 X1.1) O1 GT St hz S1) (hw _ (List.mem_of_getElem? (i := 78) rfl)) (hw _ (List.mem_of_getElem? (i := 9) rfl)) (by decide) (by decide)) (fun _ _ _ q => q.2) (by decide) (by decide) (fun _ _ _ _ q b => by obtain ⟨⟨_, _, K, _⟩, _⟩ := q; exact Bw.keep K (by simp) b) (pc' := 215) rfl ?_
        rintro _ h9 L9 ⟨⟨f9, rfl, K9, A9, F9⟩, -⟩
        show Go p l e room_1 s m #[.int x0, .int x1, .int x2, .int x3] below meth c Z "com/example/llave/llave/policy/ObjectiveOfPinLaw" n0 _ (EnW s room_1 n0 Z consts_1 (fun v _ => v = some (.int 1))) _ _ _ 215 #[.val (.int x0), .val (.int x1), .val (.int x2), .val (.int x3), .val (.int (x0 &&& (3 : Int32))), .val (.int (x3 &&& 255)), .val (.int (1 : Int32)), .val (.ref la), .val .null, .unset, .unset, .unset, .unset, .unset, .unset] [(.ref f9)]
        rw [show own_res T.2.2.1 [] = .null from rfl] at F9
        refine Go.aconstNull C at_215 (pc' := 216) rfl ?_
        refine Go.callV C at_216 (hw _ (List.mem_of_getElem? (i := 112) rfl)) (hw _ (List.mem_of_getElem? (i := 113) rfl)) (hw _ (List.mem_of_getElem? (i := 115) rfl)) (hw _ (List.mem_of_getElem? (i := 114) rfl)) (fun st hZ => notFace_of_selects (args := #[]) (mvT hZ (hw _ (List.mem_of_getElem? (i := 115) rfl)))) (by decide) A9 (argsL := [.null]) (rest := []) rfl (lenOf pd__Ljava_lang_Object__Ljava_lang_Object_ rfl) rfl (W := 0) (Nat.le_of_ble_eq_true rfl) (Ct.pay (rm_els l Z a0 hw f9 .null h9 n0 F9 (Or.inl rfl)) (hw _ (List.mem_of_getElem? (i := 116) rfl)) (hw _ (List.mem_of_getElem? (i := 81) rfl)) (by decide) (by decide)) (fun _ _ _ q => q.2) (by decide) (by decide) (fun _ _ _ _ q b => by obtain ⟨⟨_, rfl⟩, _⟩ := q; exact b) (pc' := 219) rfl ?_
        rintro _ _ L10 ⟨⟨rfl, rfl⟩, -⟩
        show Go p l e room_1 s m #[.int x0, .int x1, .int x2, .int x3] below meth c Z "com/example/llave/llave/policy/ObjectiveOfPinLaw" n0 _ (EnW s room_1 n0 Z consts_1 (fun v _ => v = some (.int 1))) _ _ _ 219 #[.val (.int x0), .val (.int x1), .val (.int x2), .val (.int x3), .val (.int (x0 &&& (3 : Int32))), .val (.int (x3 &&& 255)), .val (.int (1 : Int32)), .val (.ref la), .val .null, .unset, .unset, .unset, .unset, .unset, .unset] [.null]
        refine Go.castNull C at_219 (pc' := 222) rfl ?_
        refine Go.astore C at_222 rfl (L' := #[.val (.int x0), .val (.int x1), .val (.int x2), .val (.int x3), .val (.int (x0 &&& (3 : Int32))), .val (.int (x3 &&& 255)), .val (.int (1 : Int32)), .val (.ref la), .val .null, .val .null, .unset, .unset, .unset, .unset, .unset]) rfl (pc' := 224) rfl ?_
        refine Go.aload C at_224 rfl rfl (pc' := 226) rfl ?_
        refine Go.aload C at_226 rfl rfl (pc' := 228) rfl ?_
        refine Go.acmp_ne_f C at_228 rfl rfl rfl (by decide) (pc' := 231) rfl ?_
        refine Go.iconst C at_231 (v := 1) rfl (pc' := 232) rfl ?_
        refine Go.goto C at_232 (by decide) (pc' := 236) (by decide) ?_
        refine Go.retNW C hEL (by simp) at_236 (by decide) (by decide) ?_
        exact rfl
      · refine Go.aconstNull C at_40 (pc' := 41) rfl ?_
        refine Go.astore C at_41 rfl (L' := #[.val (.int x0), .val (.int x1), .val (.int x2), .val (.int x3), .val (.int (x0 &&& (3 : Int32))), .val (.int (x3 &&& 255)), .val (.int (1 : Int32)), .val .null, .unset, .unset, .unset, .unset, .unset, .unset, .unset]) rfl (pc' := 43) rfl ?_
        refine Go.goto C at_43 (by decide) (pc' := 50) (by decide) ?_
        refine Go.aconstNull C at_50 (pc' := 51) rfl ?_
        refine Go.astore C at_51 rfl (L' := #[.val (.int x0), .val (.int x1), .val (.int x2), .val (.int x3), .val (.int (x0 &&& (3 : Int32))), .val (.int (x3 &&& 255)), .val (.int (1 : Int32)), .val .null, .val .null, .unset, .unset, .unset, .unset, .unset, .unset]) rfl (pc' := 53) rfl ?_
        refine Go.goto C at_53 (by decide) (pc' := 210) (by decide) ?_
        refine Go.aload C at_210 rfl rfl (pc' := 212) rfl ?_
        refine Go.callS C at_212 (hw _ (List.mem_of_getElem? (i := 76) rfl)) (hw _ (List.mem_of_getElem? (i := 77) rfl)) (hw _ (List.mem_of_getElem? (i := 9) rfl)) (hw _ (List.mem_of_getElem? (i := 78) rfl)) (by decide) (argsL := [.null]) (rest := []) rfl (lenOf pd__Ljava_lang_String__Ljava_util_Optional_ rfl) rfl (W := 0) (Nat.le_of_ble_eq_true rfl) (Ct.pay (rm_ofn l Z a0 hw T z h0 n0 Z0 O0 GT St hz) (hw _ (List.mem_of_getElem? (i := 78) rfl)) (hw _ (List.mem_of_getElem? (i := 9) rfl)) (by decide) (by decide)) (fun _ _ _ q => q.2) (by decide) (by decide) (fun _ _ _ _ q b => by obtain ⟨⟨_, _, K, _⟩, _⟩ := q; exact Bw.keep K (by simp) b) (pc' := 215) rfl ?_
        rintro _ h9 L9 ⟨⟨f9, rfl, K9, A9, F9⟩, -⟩
        show Go p l e room_1 s m #[.int x0, .int x1, .int x2, .int x3] below meth c Z "com/example/llave/llave/policy/ObjectiveOfPinLaw" n0 _ (EnW s room_1 n0 Z consts_1 (fun v _ => v = some (.int 1))) _ _ _ 215 #[.val (.int x0), .val (.int x1), .val (.int x2), .val (.int x3), .val (.int (x0 &&& (3 : Int32))), .val (.int (x3 &&& 255)), .val (.int (1 : Int32)), .val .null, .val .null, .unset, .unset, .unset, .unset, .unset, .unset] [(.ref f9)]
        refine Go.aconstNull C at_215 (pc' := 216) rfl ?_
        refine Go.callV C at_216 (hw _ (List.mem_of_getElem? (i := 112) rfl)) (hw _ (List.mem_of_getElem? (i := 113) rfl)) (hw _ (List.mem_of_getElem? (i := 115) rfl)) (hw _ (List.mem_of_getElem? (i := 114) rfl)) (fun st hZ => notFace_of_selects (args := #[]) (mvT hZ (hw _ (List.mem_of_getElem? (i := 115) rfl)))) (by decide) A9 (argsL := [.null]) (rest := []) rfl (lenOf pd__Ljava_lang_Object__Ljava_lang_Object_ rfl) rfl (W := 0) (Nat.le_of_ble_eq_true rfl) (Ct.pay (rm_els l Z a0 hw f9 .null h9 n0 F9 (Or.inl rfl)) (hw _ (List.mem_of_getElem? (i := 116) rfl)) (hw _ (List.mem_of_getElem? (i := 81) rfl)) (by decide) (by decide)) (fun _ _ _ q => q.2) (by decide) (by decide) (fun _ _ _ _ q b => by obtain ⟨⟨_, rfl⟩, _⟩ := q; exact b) (pc' := 219) rfl ?_
        rintro _ _ L10 ⟨⟨rfl, rfl⟩, -⟩
        show Go p l e room_1 s m #[.int x0, .int x1, .int x2, .int x3] below meth c Z "com/example/llave/llave/policy/ObjectiveOfPinLaw" n0 _ (EnW s room_1 n0 Z consts_1 (fun v _ => v = some (.int 1))) _ _ _ 219 #[.val (.int x0), .val (.int x1), .val (.int x2), .val (.int x3), .val (.int (x0 &&& (3 : Int32))), .val (.int (x3 &&& 255)), .val (.int (1 : Int32)), .val .null, .val .null, .unset, .unset, .unset, .unset, .unset, .unset] [.null]
        refine Go.castNull C at_219 (pc' := 222) rfl ?_
        refine Go.astore C at_222 rfl (L' := #[.val (.int x0), .val (.int x1), .val (.int x2), .val (.int x3), .val (.int (x0 &&& (3 : Int32))), .val (.int (x3 &&& 255)), .val (.int (1 : Int32)), .val .null, .val .null, .val .null, .unset, .unset, .unset, .unset, .unset]) rfl (pc' := 224) rfl ?_
        refine Go.aload C at_224 rfl rfl (pc' := 226) rfl ?_
        refine Go.aload C at_226 rfl rfl (pc' := 228) rfl ?_
        refine Go.acmp_ne_f C at_228 rfl rfl rfl (by decide) (pc' := 231) rfl ?_
        refine Go.iconst C at_231 (v := 1) rfl (pc' := 232) rfl ?_
        refine Go.goto C at_232 (by decide) (pc' := 236) (by decide) ?_
        refine Go.retNW C hEL (by simp) at_236 (by decide) (by decide) ?_
        exact rfl
set_option maxRecDepth 65536 in
set_option maxHeartbeats 40000000 in
theorem comes_1 {Post : Tables → Env → Array Value → State → Outcome → State → Prop} (hpost : ∀ tb e args s v u, (limb_1_1.after args s (.returned v) u = true ∧ limb_1_2.after args s (.returned v) u = true ∧ True) → ReturnedEndW s (.returned v) u (Jvm.fieldLocs frame_1_writes args s ++ Jvm.arrayLocs frame_1_arrays args s ++ Jvm.staticLocs frame_1_statics s) 32 4288 → Post tb e args s (.returned v) u) :
    ArmFor flags0 classFile x code maxLocals ret World_1 tables_1 room_1 Calls_1 rest_1 Pre_1 Post := by
  intro l hfl _ _ p e ha hc hk s m args below hf hA hF happ hP
  obtain ⟨hcalls, hrest, hpre⟩ := hP
  obtain ⟨-, -, -, hnamed, -, -, -, hat⟩ := (Spec.applies_iff hf).mp happ
  obtain ⟨hg, hn⟩ := and_e (Cond.before_iff.mp (show (Jvm.Cond.and given_1 narrow_1).before args s = true from hpre))
  obtain ⟨hcount, g0⟩ := and_e hg
  obtain ⟨k0, g1⟩ := and_e g0
  obtain ⟨k1, g2⟩ := and_e g1
  obtain ⟨k2, g3⟩ := and_e g2
  obtain ⟨w0, w1, w2, w3, rfl⟩ : ∃ w0 w1 w2 w3 : Value, args = #[w0, w1, w2, w3] := by
    have hs : args.size = 4 := by simpa [Cond.value, given_1] using hcount
    obtain ⟨L⟩ := args
    match L, hs with
    | [w0, w1, w2, w3], _ => exact ⟨w0, w1, w2, w3, rfl⟩
  have hw := fun d (hd : d ∈ tables_1) => atoms_spec (ws := Jvm.Cond.code x code maxLocals ret :: tables_1) hat d (List.mem_cons_of_mem _ hd)
  obtain ⟨i0, e0⟩ := is_v k0
  obtain rfl : w0 = (.int i0) := Option.some.inj e0
  obtain ⟨i1, e1⟩ := is_v k1
  obtain rfl : w1 = (.int i1) := Option.some.inj e1
  obtain ⟨i2, e2⟩ := is_v k2
  obtain rfl : w2 = (.int i2) := Option.some.inj e2
  obtain ⟨i3, e3⟩ := is_v g3
  obtain rfl : w3 = (.int i3) := Option.some.inj e3
  obtain ⟨hsets, hown0⟩ := atoms_of _ (rest_1_c_eq ▸ (show rest_1_c.before _ s = true from hrest))
  have ncs := not_v (Cond.before_iff.mp (hsets _ (List.mem_of_getElem? (i := 2) rfl)))
  obtain ⟨ics, ecs⟩ := is_v (Cond.before_iff.mp (hsets _ (List.mem_of_getElem? (i := 1) rfl)))
  have Scs : Sta s s.heap "java/lang/String" "COMPACT_STRINGS" "Z" (.int ics) := Sta.start ecs (Or.inl (hsets _ (List.mem_of_getElem? (i := 0) rfl)))
  have zcs : ¬ (ics = (0 : Int32)) := gotF (Cond.eq_ints ecs (Term.int_eval (0))) ncs
  have hfit : Fit s := fun {y c} hc i hi => by
    obtain ⟨ha, rfl⟩ := Array.getElem?_eq_some_iff.mp hc
    have q := List.all_eq_true.mp ((Array.all_eq_true_iff_forall_mem.mp hF) _ (Array.getElem_mem ha)) i (List.mem_range.mpr hi)
    simpa [Array.getElem?_eq_getElem hi] using q
  have r1 := hn
  obtain ⟨q1, r2⟩ := and_e r1
  obtain ⟨q2, r3⟩ := and_e r2
  obtain ⟨q3, r4⟩ := and_e r3
  obtain ⟨q4, r5⟩ := and_e r4
  obtain ⟨q5, r6⟩ := and_e r5
  obtain ⟨q6, r7⟩ := and_e r6
  obtain ⟨q7, r8⟩ := and_e r7
  obtain ⟨q8, r9⟩ := and_e r8
  obtain ⟨q9, r10⟩ := and_e r9
  obtain ⟨q10, r11⟩ := and_e r10
  obtain ⟨q11, r12⟩ := and_e r11
  obtain ⟨q12, r13⟩ := and_e r12
  obtain ⟨q13, r14⟩ := and_e r13
  obtain ⟨q14, r15⟩ := and_e r14
  obtain ⟨q15, r16⟩ := and_e r15
  obtain ⟨q16, r17⟩ := and_e r16
  obtain ⟨q17, r18⟩ := and_e r17
  obtain ⟨q18, r19⟩ := and_e r18
  obtain ⟨q19, r20⟩ := and_e r19
  obtain ⟨q20, r21⟩ := and_e r20
  obtain ⟨q21, r22⟩ := and_e r21
  obtain ⟨q22, r23⟩ := and_e r22
  obtain ⟨q23, r24⟩ := and_e r23
  obtain ⟨q24, r25⟩ := and_e r24
  obtain ⟨q25, r26⟩ := and_e r25
  obtain ⟨q26, r27⟩ := and_e r26
  obtain ⟨q27, r28⟩ := and_e r27
  obtain ⟨q28, r29⟩ := and_e r28
  obtain ⟨q29, r30⟩ := and_e r29
  obtain ⟨q30, r31⟩ := and_e r30
  obtain ⟨q31, r32⟩ := and_e r31
  obtain ⟨q32, r33⟩ := and_e r32
  obtain ⟨q33, r34⟩ := and_e r33
  obtain ⟨q34, r35⟩ := and_e r34
  obtain ⟨q35, r36⟩ := and_e r35
  obtain ⟨q36, r37⟩ := and_e r36
  obtain ⟨q37, r38⟩ := and_e r37
  obtain ⟨q38, r39⟩ := and_e r38
  obtain ⟨q39, r40⟩ := and_e r39
  obtain ⟨q40, r41⟩ := and_e r40
  obtain ⟨q41, r42⟩ := and_e r41
  obtain ⟨q42, r43⟩ := and_e r42
  obtain ⟨q43, r44⟩ := and_e r43
  obtain ⟨q44, r45⟩ := and_e r44
  obtain ⟨q45, r46⟩ := and_e r45
  obtain ⟨q46, r47⟩ := and_e r46
  obtain ⟨q47, r48⟩ := and_e r47
  obtain ⟨q48, r49⟩ := and_e r48
  obtain ⟨q49, r50⟩ := and_e r49
  obtain ⟨q50, r51⟩ := and_e r50
  obtain ⟨q51, r52⟩ := and_e r51
  obtain ⟨q52, r53⟩ := and_e r52
  obtain ⟨q53, r54⟩ := and_e r53
  obtain ⟨q54, r55⟩ := and_e r54
  obtain ⟨q55, r56⟩ := and_e r55
  obtain ⟨q56, r57⟩ := and_e r56
  have q57 := r57
  obtain ⟨o0, eo0⟩ := exa_v q1
  have E0 := Exa.start eo0 q1
  have X0 := Sta.start eo0 (Or.inr ⟨(hw _ (List.mem_of_getElem? (i := 9) rfl)), (hw _ (List.mem_of_getElem? (i := 10) rfl))⟩)
  obtain ⟨o1, eo1⟩ := exa_v q6
  have E1 := Exa.start eo1 q6
  have X1 := Sta.start eo1 (Or.inr ⟨(hw _ (List.mem_of_getElem? (i := 9) rfl)), (hw _ (List.mem_of_getElem? (i := 96) rfl))⟩)
  obtain ⟨o2, eo2⟩ := exa_v q8
  have E2 := Exa.start eo2 q8
  have X2 := Sta.start eo2 (Or.inr ⟨(hw _ (List.mem_of_getElem? (i := 9) rfl)), (hw _ (List.mem_of_getElem? (i := 97) rfl))⟩)
  obtain ⟨va, ev⟩ := exa_v q3
  have Ev := Exa.start ev q3
  have Xv := Sta.start ev (Or.inr ⟨(hw _ (List.mem_of_getElem? (i := 9) rfl)), (hw _ (List.mem_of_getElem? (i := 88) rfl))⟩)
  obtain ⟨vc, Av, hAv, lv, zv⟩ := own_arr ev q2 q4
  have Vv := Arv.start (dv := .null) (vs := [.ref o0, .ref o1, .ref o2]) hfit Av lv zv (by decide) rfl ⟨own_elr ev hAv 0 (by decide) eo0 q5, own_elr ev hAv 1 (by decide) eo1 q7, own_elr ev hAv 2 (by decide) eo2 q9, trivial⟩
  obtain ⟨w0', ew0⟩ := exa_v q10
  have Fw0 := Fld.start ((fld_at eo0).symm.trans ew0)
  obtain ⟨t0, kb0, Sw0⟩ := own_str (cs := own_W 0) hfit ew0 q10 q11 q12 q13 (by decide) (by decide) (by decide) (fun a c ea hA => ⟨own_eli ea hA 0 (by decide) q22, own_eli ea hA 1 (by decide) q23, own_eli ea hA 2 (by decide) q24, own_eli ea hA 3 (by decide) q25, own_eli ea hA 4 (by decide) q26, own_eli ea hA 5 (by decide) q27, own_eli ea hA 6 (by decide) q28, own_eli ea hA 7 (by decide) q29, own_eli ea hA 8 (by decide) q30, own_eli ea hA 9 (by decide) q31, own_eli ea hA 10 (by decide) q32, own_eli ea hA 11 (by decide) q33, own_eli ea hA 12 (by decide) q34, own_eli ea hA 13 (by decide) q35, own_eli ea hA 14 (by decide) q36, trivial⟩) (by decide) (by decide)
  obtain ⟨w1', ew1⟩ := exa_v q14
  have Fw1 := Fld.start ((fld_at eo1).symm.trans ew1)
  obtain ⟨t1, kb1, Sw1⟩ := own_str (cs := own_W 1) hfit ew1 q14 q15 q16 q17 (by decide) (by decide) (by decide) (fun a c ea hA => ⟨own_eli ea hA 0 (by decide) q37, own_eli ea hA 1 (by decide) q38, own_eli ea hA 2 (by decide) q39, own_eli ea hA 3 (by decide) q40, own_eli ea hA 4 (by decide) q41, own_eli ea hA 5 (by decide) q42, own_eli ea hA 6 (by decide) q43, own_eli ea hA 7 (by decide) q44, own_eli ea hA 8 (by decide) q45, trivial⟩) (by decide) (by decide)
  obtain ⟨w2', ew2⟩ := exa_v q18
  have Fw2 := Fld.start ((fld_at eo2).symm.trans ew2)
  obtain ⟨t2, kb2, Sw2⟩ := own_str (cs := own_W 2) hfit ew2 q18 q19 q20 q21 (by decide) (by decide) (by decide) (fun a c ea hA => ⟨own_eli ea hA 0 (by decide) q46, own_eli ea hA 1 (by decide) q47, own_eli ea hA 2 (by decide) q48, own_eli ea hA 3 (by decide) q49, own_eli ea hA 4 (by decide) q50, own_eli ea hA 5 (by decide) q51, own_eli ea hA 6 (by decide) q52, own_eli ea hA 7 (by decide) q53, own_eli ea hA 8 (by decide) q54, own_eli ea hA 9 (by decide) q55, own_eli ea hA 10 (by decide) q56, own_eli ea hA 11 (by decide) q57, trivial⟩) (by decide) (by decide)
  obtain ⟨vf, ef, rf⟩ := isR_v (Cond.before_iff.mp (hsets _ (List.mem_of_getElem? (i := 8) rfl)))
  have Sf : Sta s s.heap "jdk/internal/util/Preconditions" "SIOOBE_FORMATTER" "Ljava/util/function/BiFunction;" vf := Sta.start ef (Or.inl (hsets _ (List.mem_of_getElem? (i := 7) rfl)))
  have qe := Cond.before_iff.mp (hsets _ (List.mem_of_getElem? (i := 11) rfl))
  obtain ⟨eo, ee⟩ := exa_v qe
  have Ee := Exa.start ee qe
  have Xe := Sta.start ee (Or.inl (hsets _ (List.mem_of_getElem? (i := 10) rfl)))
  have Fe := Fld.start ((fld_at ee).symm.trans (null_v (Cond.before_iff.mp (hsets _ (List.mem_of_getElem? (i := 12) rfl)))))
  have G : own_G s (va, vc.cls, (fun j => match j with | 0 => o0 | 1 => o1 | 2 => o2), (fun j => match j with | 0 => w0' | 1 => w1' | 2 => w2'), (fun j => match j with | 0 => t0 | 1 => t1 | 2 => t2), (fun j => match j with | 0 => kb0 | 1 => kb1 | 2 => kb2), eo) := ⟨Xv, Vv, Ev, fun j => by
    match j with
    | 0 => exact ⟨E0, Fw0, Sw0⟩
    | 1 => exact ⟨E1, Fw1, Sw1⟩
    | 2 => exact ⟨E2, Fw2, Sw2⟩, Xe, Ee, Fe⟩
  have hcon : ∀ p ∈ consts_1, Jvm.Lit.constHeld s p.1 p.2 := fun p hp => hcalls.1 p hp
  have hC := CHv.start (own_ew (Z := s) hw) hcon (Cond.before_iff.mpr (Cond.before_iff.mp (hsets _ (List.mem_of_getElem? (i := 2) rfl)))) (hw _ (List.mem_of_getElem? (i := 3) rfl)) (hw _ (List.mem_of_getElem? (i := 2) rfl))
  obtain ⟨n, o, h1, h2, h3, v, L, rfl, ⟨rfl, N⟩, -, hq⟩ := rm_law l s _ hw i0 i1 i2 i3 ics _ vf s.heap s.heap.size (Nat.le_refl _) (Old.start s) G ⟨X0, X1, X2⟩ Scs zcs Sf rf p e ha hc hk s m _ below hf ((Spec.applies_iff_loose hf).mp happ).1 ⟨rfl, State.Warmed39.refl s, rfl, hC, fun _ q => nomatch q⟩ trivial
  refine ⟨n, _, h1, h2, h3, hpost _ _ _ _ _ _ ⟨Cond.after_iff.mpr rfl, Cond.after_iff.mpr (eq_i res_at (Term.int_eval (1)) rfl), trivial⟩ ⟨hq.1, hq.2.1, hq.2.2.1, (hq.2.2.2.sift fun y hy => Or.inr (N y hy)).mono (by decide) (by decide)⟩⟩
theorem main_1_1 : Claimed_1_1 := comes_1 fun _ _ _ _ _ _ h hF => ⟨h.1, hF⟩
theorem main_1_2 : Claimed_1_2 := comes_1 fun _ _ _ _ _ _ h hF => ⟨h.2.1, hF⟩
end Jvm.Pilot.@@N@@
namespace Jvm.Pilot.@@N@@
open Jvm Jvm.ClassFile Sem Op Lib Jvm.Free Jvm.Stand Jvm.Pilot.@@N@@.Jvm.D
/-! MADE BY PROGRAM (witnessworld.py) out of the Statement's table words and the real class files: 24 classes; the members and pool entries that the words name. The judged class is class 1, her method 4. -/
namespace start1
open Jvm.ClassFile
def u (s : String) : CpInfo := .utf8 (stringToUtf16 s)
/-- a pool by its gaps: so many unusable entries, then the entry; so many at the end -/
def gap : Nat → List CpInfo → List CpInfo
  | 0, r => r
  | n + 1, r => .unusable :: gap n r
def poolList (es : List (Nat × CpInfo)) (last : Nat) : List CpInfo := es.foldr (fun e r => gap e.1 (e.2 :: r)) (gap last [])
def pool (es : List (Nat × CpInfo)) (last : Nat) : Array CpInfo := ⟨poolList es last⟩
def fileOf (pool : Array CpInfo) (this : Nat) (attrs : Array Attribute := #[]) (ms : Array MethodInfo := #[]) (fl : Nat := 33) (sup : Nat := 0) (ifs : Array Nat := #[]) (fds : Array FieldInfo := #[]) : ClassFile where
  minorVersion := 0
  majorVersion := 65
  constantPool := pool
  accessFlags := fl
  thisClass := this
  superClass := sup
  interfaces := ifs
  fields := fds
  methods := ms
  attributes := attrs
def plain (name : String) (sup : Option ClassId) : Class where
  name := name
  kind := .ordinary
  loader := none
  accessFlags := 33
  super := sup
  interfaces := #[]
  cf := none
  fields := #[]
  methods := #[]
  instanceTypes := #[]
  staticTypes := #[]
  resolved := #[]
  callSites := []
  init := .initialized
  statics := none
  mirror := none

def pool0 : Array CpInfo := pool [(5, u "<init>"), (0, u "()V"), (1, .class_ 10), (1, u "java/lang/Object"), (85, u "clone"), (0, u "()Ljava/lang/Object;")] 26

def k0c0 : Code := { maxStack := 0, maxLocals := 1, code := object_method_1_code, exceptionTable := #[], attributes := #[] }
def k0m0 : Method := { name := "<init>", desc := "()V", sig := { parameters := [], returnType := none }, accessFlags := 1, code := some k0c0 }
def k0m1 : Method := { name := "clone", desc := "()Ljava/lang/Object;", sig := { parameters := [], returnType := some (.object "java/lang/Object") }, accessFlags := 260, code := none }
/-- java/lang/Object -/
def k0 : Class := { plain "java/lang/Object" none with
  accessFlags := 33
  interfaces := #[]
  cf := some (fileOf pool0 8 #[] #[{ accessFlags := 1, nameIndex := 5, descriptorIndex := 6, attributes := #[] }, { accessFlags := 260, nameIndex := 96, descriptorIndex := 97, attributes := #[] }] 33 0 #[] #[])
  fields := #[]
  methods := #[k0m0, k0m1]
  instanceTypes := #[]
  staticTypes := #[]
  resolved := Array.replicate 124 none
  statics := none }

def pool1 : Array CpInfo := pool [(2, .class_ 4), (1, u "java/lang/Object"), (0, u "<init>"), (0, u "()V"), (0, .methodref 8 9), (0, .class_ 10), (0, .nameAndType 11 12), (0, u "java/lang/String"), (0, u "length"), (0, u "()I"), (0, .methodref 8 14), (0, .nameAndType 15 16), (0, u "charAt"), (0, u "(I)C"), (0, .methodref 18 19), (0, .class_ 20), (0, .nameAndType 21 22), (0, u "com/example/llave/llave/policy/ObjectiveOfPinLaw"), (0, u "at"), (0, u "(Ljava/lang/String;IC)C"), (0, .methodref 8 24), (0, .nameAndType 5 25), (0, u "([C)V"), (0, .string 27), (0, u ""), (0, .string 29), (0, u "confidentiality"), (0, .fieldref 31 32), (0, .class_ 33), (0, .nameAndType 34 35), (0, u "com/example/llave/llave/policy/Objective"), (0, u "CONFIDENTIALITY"), (0, u "Lcom/example/llave/llave/policy/Objective;"), (0, .string 37), (0, u "integrity"), (0, .fieldref 31 39), (0, .nameAndType 40 35), (0, u "INTEGRITY"), (0, .string 42), (0, u "availability"), (0, .fieldref 31 44), (0, .nameAndType 45 35), (0, u "AVAILABILITY"), (0, .integer 2147483647), (0, .methodref 18 48), (0, .nameAndType 49 50), (0, u "mutate"), (0, u "(Ljava/lang/String;IIC)Ljava/lang/String;"), (0, .methodref 18 52), (0, .nameAndType 53 54), (0, u "make"), (0, u "(Ljava/lang/String;IC)Ljava/lang/String;"), (0, .methodref 31 56), (0, .nameAndType 57 58), (0, u "of"), (0, u "(Ljava/lang/String;)Ljava/util/Optional;"), (0, .methodref 60 61), (0, .class_ 62), (0, .nameAndType 63 64), (0, u "java/util/Optional"), (0, u "orElse"), (0, u "(Ljava/lang/Object;)Ljava/lang/Object;"), (5, u "law"), (0, u "(IIII)Z")] 2

def k1m0 : Method := { name := "<init>", desc := "()V", sig := { parameters := [], returnType := none }, accessFlags := 1, code := none }
def k1c1 : Code := { maxStack := 2, maxLocals := 3, code := method_2_code, exceptionTable := #[], attributes := #[] }
def k1m1 : Method := { name := "at", desc := "(Ljava/lang/String;IC)C", sig := { parameters := [(.object "java/lang/String"), .int, .char], returnType := some .char }, accessFlags := 10, code := some k1c1 }
def k1c2 : Code := { maxStack := 5, maxLocals := 4, code := method_3_code, exceptionTable := #[], attributes := #[] }
def k1m2 : Method := { name := "make", desc := "(Ljava/lang/String;IC)Ljava/lang/String;", sig := { parameters := [(.object "java/lang/String"), .int, .char], returnType := some (.object "java/lang/String") }, accessFlags := 10, code := some k1c2 }
def k1c3 : Code := { maxStack := 5, maxLocals := 5, code := method_4_code, exceptionTable := #[], attributes := #[] }
def k1m3 : Method := { name := "mutate", desc := "(Ljava/lang/String;IIC)Ljava/lang/String;", sig := { parameters := [(.object "java/lang/String"), .int, .int, .char], returnType := some (.object "java/lang/String") }, accessFlags := 10, code := some k1c3 }
def k1c4 : Code := { maxStack := 4, maxLocals := 15, code := code, exceptionTable := #[], attributes := #[] }
def k1m4 : Method := { name := "law", desc := "(IIII)Z", sig := { parameters := [.int, .int, .int, .int], returnType := some .boolean }, accessFlags := 9, code := some k1c4 }
/-- com/example/llave/llave/policy/ObjectiveOfPinLaw -/
def k1 : Class := { plain "com/example/llave/llave/policy/ObjectiveOfPinLaw" (some 0) with
  accessFlags := 49
  interfaces := #[]
  cf := some (fileOf pool1 18 #[] #[{ accessFlags := 1, nameIndex := 5, descriptorIndex := 6, attributes := #[] }, { accessFlags := 10, nameIndex := 21, descriptorIndex := 22, attributes := #[] }, { accessFlags := 10, nameIndex := 53, descriptorIndex := 54, attributes := #[] }, { accessFlags := 10, nameIndex := 49, descriptorIndex := 50, attributes := #[] }, { accessFlags := 9, nameIndex := 70, descriptorIndex := 71, attributes := #[] }] 49 2 #[] #[])
  fields := #[]
  methods := #[k1m0, k1m1, k1m2, k1m3, k1m4]
  instanceTypes := #[]
  staticTypes := #[]
  resolved := Array.replicate 74 none
  statics := none }

def pool2 : Array CpInfo := pool [(1, .class_ 2), (0, u "java/io/Serializable"), (0, .class_ 4), (0, u "java/lang/Object")] 2

/-- java/io/Serializable -/
def k2 : Class := { plain "java/io/Serializable" (some 0) with
  accessFlags := 1537
  interfaces := #[]
  cf := some (fileOf pool2 1 #[] #[] 1537 3 #[] #[])
  fields := #[]
  methods := #[]
  instanceTypes := #[]
  staticTypes := #[]
  resolved := Array.replicate 7 none
  statics := none }

def pool3 : Array CpInfo := pool [(1, .class_ 2), (0, u "java/lang/Comparable"), (0, .class_ 4), (0, u "java/lang/Object")] 7

/-- java/lang/Comparable -/
def k3 : Class := { plain "java/lang/Comparable" (some 0) with
  accessFlags := 1537
  interfaces := #[]
  cf := some (fileOf pool3 1 #[] #[] 1537 3 #[] #[])
  fields := #[]
  methods := #[]
  instanceTypes := #[]
  staticTypes := #[]
  resolved := Array.replicate 12 none
  statics := none }

def pool4 : Array CpInfo := pool [(2, .class_ 4), (1, u "java/lang/CharSequence"), (42, .class_ 48), (0, u "java/lang/CharSequence$1CodePointIterator"), (10, .class_ 60), (0, u "java/lang/CharSequence$1CharIterator"), (5, .class_ 67), (0, u "java/lang/Object")] 63

/-- java/lang/CharSequence -/
def k4 : Class := { plain "java/lang/CharSequence" (some 0) with
  accessFlags := 1537
  interfaces := #[]
  cf := some (fileOf pool4 2 #[.nestMembers #[47, 59]] #[] 1537 66 #[] #[])
  fields := #[]
  methods := #[]
  instanceTypes := #[]
  staticTypes := #[]
  resolved := Array.replicate 131 none
  statics := none }

def pool5 : Array CpInfo := pool [(1, .class_ 2), (0, u "java/lang/constant/Constable"), (0, .class_ 4), (0, u "java/lang/Object")] 6

/-- java/lang/constant/Constable -/
def k5 : Class := { plain "java/lang/constant/Constable" (some 0) with
  accessFlags := 1537
  interfaces := #[]
  cf := some (fileOf pool5 1 #[] #[] 1537 3 #[] #[])
  fields := #[]
  methods := #[]
  instanceTypes := #[]
  staticTypes := #[]
  resolved := Array.replicate 11 none
  statics := none }

def pool6 : Array CpInfo := pool [(1, .class_ 2), (0, u "java/lang/constant/ConstantDesc"), (0, .class_ 4), (0, u "java/lang/Object")] 32

/-- java/lang/constant/ConstantDesc -/
def k6 : Class := { plain "java/lang/constant/ConstantDesc" (some 0) with
  accessFlags := 1537
  interfaces := #[]
  cf := some (fileOf pool6 1 #[] #[] 1537 3 #[] #[])
  fields := #[]
  methods := #[]
  instanceTypes := #[]
  staticTypes := #[]
  resolved := Array.replicate 37 none
  statics := none }

def pool7 : Array CpInfo := pool [(1, .methodref 2 3), (0, .class_ 4), (0, .nameAndType 5 6), (0, u "java/lang/Object"), (0, u "<init>"), (0, u "()V"), (2, .fieldref 10 11), (0, .class_ 12), (0, .nameAndType 13 14), (0, u "java/lang/String"), (0, u "value"), (0, u "[B"), (0, .fieldref 10 16), (0, .nameAndType 17 18), (0, u "coder"), (0, u "B"), (2, u "hash"), (0, u "I"), (2, u "hashIsZero"), (0, u "Z"), (0, .methodref 10 28), (0, .nameAndType 5 29), (0, u "([CIILjava/lang/Void;)V"), (8, .fieldref 10 39), (0, .nameAndType 40 26), (0, u "COMPACT_STRINGS"), (1, .class_ 44), (1, u "java/lang/StringUTF16"), (0, u "compress"), (1, .methodref 42 48), (0, .nameAndType 49 50), (0, u "coderFromArrayLen"), (0, u "([BI)B"), (56, .class_ 109), (1, u "java/lang/StringLatin1"), (32, u "()Z"), (34, .methodref 42 178), (0, .nameAndType 45 179), (0, u "([CII)[B"), (154, u "()I"), (0, .methodref 10 336), (0, .nameAndType 17 337), (0, u "()B"), (25, u "([BI)C"), (27, u "(II)V"), (35, u "(I)C"), (64, .methodref 10 493), (0, .nameAndType 494 142), (0, u "isLatin1"), (0, .methodref 107 496), (0, .nameAndType 497 363), (0, u "charAt"), (3, u "checkIndex"), (5, u "length"), (33, .methodref 107 542), (0, .nameAndType 543 544), (0, u "equals"), (0, u "([B[B)Z"), (28, u "(Ljava/lang/Object;)Z"), (1, .class_ 576), (0, u "java/lang/CharSequence"), (22, u "CASE_INSENSITIVE_ORDER"), (0, u "Ljava/util/Comparator;"), (409, u "([C)V"), (42, .fieldref 1054 1055), (0, .class_ 1056), (0, .nameAndType 1057 1058), (0, u "jdk/internal/util/Preconditions"), (0, u "SIOOBE_FORMATTER"), (0, u "Ljava/util/function/BiFunction;"), (0, .methodref 1054 1060), (0, .nameAndType 501 1061), (0, u "(IILjava/util/function/BiFunction;)I"), (39, u "serialPersistentFields"), (0, u "[Ljava/io/ObjectStreamField;"), (0, .class_ 1104), (0, u "java/lang/String$CaseInsensitiveComparator"), (1, .class_ 1107), (0, u "java/io/Serializable"), (0, .class_ 1109), (0, u "java/lang/Comparable"), (0, .class_ 1111), (0, u "java/lang/constant/Constable"), (0, .class_ 1113), (0, u "java/lang/constant/ConstantDesc"), (2, u "serialVersionUID"), (0, u "J"), (3, u "REPL"), (0, u "C"), (2, u "LATIN1"), (1, u "UTF16")] 323

def k7m0 : Method := { name := "<init>", desc := "()V", sig := { parameters := [], returnType := none }, accessFlags := 1, code := none }
def k7c1 : Code := { maxStack := 5, maxLocals := 2, code := jdk_42_method_3_code, exceptionTable := #[], attributes := #[] }
def k7m1 : Method := { name := "<init>", desc := "([C)V", sig := { parameters := [(.array .char)], returnType := none }, accessFlags := 1, code := some k7c1 }
def k7c2 : Code := { maxStack := 2, maxLocals := 1, code := jdk_42_method_54_code, exceptionTable := #[], attributes := #[] }
def k7m2 : Method := { name := "length", desc := "()I", sig := { parameters := [], returnType := some .int }, accessFlags := 1, code := some k7c2 }
def k7c3 : Code := { maxStack := 2, maxLocals := 2, code := jdk_42_method_56_code, exceptionTable := #[], attributes := #[] }
def k7m3 : Method := { name := "charAt", desc := "(I)C", sig := { parameters := [.int], returnType := some .char }, accessFlags := 1, code := some k7c3 }
def k7c4 : Code := { maxStack := 2, maxLocals := 3, code := jdk_42_method_66_code, exceptionTable := #[], attributes := #[] }
def k7m4 : Method := { name := "equals", desc := "(Ljava/lang/Object;)Z", sig := { parameters := [(.object "java/lang/Object")], returnType := some .boolean }, accessFlags := 1, code := some k7c4 }
def k7c5 : Code := { maxStack := 4, maxLocals := 6, code := jdk_42_method_149_code, exceptionTable := #[], attributes := #[] }
def k7m5 : Method := { name := "<init>", desc := "([CIILjava/lang/Void;)V", sig := { parameters := [(.array .char), .int, .int, (.object "java/lang/Void")], returnType := none }, accessFlags := 2, code := some k7c5 }
def k7c6 : Code := { maxStack := 1, maxLocals := 1, code := jdk_42_method_152_code, exceptionTable := #[], attributes := #[] }
def k7m6 : Method := { name := "coder", desc := "()B", sig := { parameters := [], returnType := some .byte }, accessFlags := 0, code := some k7c6 }
def k7c7 : Code := { maxStack := 1, maxLocals := 1, code := jdk_42_method_154_code, exceptionTable := #[], attributes := #[] }
def k7m7 : Method := { name := "isLatin1", desc := "()Z", sig := { parameters := [], returnType := some .boolean }, accessFlags := 0, code := some k7c7 }
def k7c8 : Code := { maxStack := 3, maxLocals := 2, code := jdk_42_method_155_code, exceptionTable := #[], attributes := #[] }
def k7m8 : Method := { name := "checkIndex", desc := "(II)V", sig := { parameters := [.int, .int], returnType := none }, accessFlags := 8, code := some k7c8 }
/-- java/lang/String -/
def k7 : Class := { plain "java/lang/String" (some 0) with
  accessFlags := 49
  interfaces := #[2, 3, 4, 5, 6]
  cf := some (fileOf pool7 10 #[.nestMembers #[1103]] #[{ accessFlags := 1, nameIndex := 5, descriptorIndex := 6, attributes := #[] }, { accessFlags := 1, nameIndex := 5, descriptorIndex := 1010, attributes := #[] }, { accessFlags := 1, nameIndex := 507, descriptorIndex := 334, attributes := #[] }, { accessFlags := 1, nameIndex := 497, descriptorIndex := 427, attributes := #[] }, { accessFlags := 1, nameIndex := 543, descriptorIndex := 573, attributes := #[] }, { accessFlags := 2, nameIndex := 5, descriptorIndex := 29, attributes := #[] }, { accessFlags := 0, nameIndex := 17, descriptorIndex := 337, attributes := #[] }, { accessFlags := 0, nameIndex := 494, descriptorIndex := 142, attributes := #[] }, { accessFlags := 8, nameIndex := 501, descriptorIndex := 391, attributes := #[] }] 49 2 #[1106, 1108, 575, 1110, 1112] #[{ accessFlags := 18, nameIndex := 13, descriptorIndex := 14, attributes := #[] }, { accessFlags := 18, nameIndex := 17, descriptorIndex := 18, attributes := #[] }, { accessFlags := 2, nameIndex := 21, descriptorIndex := 22, attributes := #[] }, { accessFlags := 2, nameIndex := 25, descriptorIndex := 26, attributes := #[] }, { accessFlags := 26, nameIndex := 1116, descriptorIndex := 1117, attributes := #[] }, { accessFlags := 24, nameIndex := 40, descriptorIndex := 26, attributes := #[] }, { accessFlags := 26, nameIndex := 1101, descriptorIndex := 1102, attributes := #[] }, { accessFlags := 26, nameIndex := 1121, descriptorIndex := 1122, attributes := #[] }, { accessFlags := 25, nameIndex := 599, descriptorIndex := 600, attributes := #[] }, { accessFlags := 24, nameIndex := 1125, descriptorIndex := 18, attributes := #[] }, { accessFlags := 24, nameIndex := 1127, descriptorIndex := 18, attributes := #[] }])
  fields := #[{ name := "value", type := (.array .byte), accessFlags := 18, slot := 0, constantValue := 0 }, { name := "coder", type := .byte, accessFlags := 18, slot := 1, constantValue := 0 }, { name := "hash", type := .int, accessFlags := 2, slot := 2, constantValue := 0 }, { name := "hashIsZero", type := .boolean, accessFlags := 2, slot := 3, constantValue := 0 }, { name := "serialVersionUID", type := .long, accessFlags := 26, slot := 0, constantValue := 0 }, { name := "COMPACT_STRINGS", type := .boolean, accessFlags := 24, slot := 1, constantValue := 0 }, { name := "serialPersistentFields", type := (.array (.object "java/io/ObjectStreamField")), accessFlags := 26, slot := 2, constantValue := 0 }, { name := "REPL", type := .char, accessFlags := 26, slot := 3, constantValue := 0 }, { name := "CASE_INSENSITIVE_ORDER", type := (.object "java/util/Comparator"), accessFlags := 25, slot := 4, constantValue := 0 }, { name := "LATIN1", type := .byte, accessFlags := 24, slot := 5, constantValue := 0 }, { name := "UTF16", type := .byte, accessFlags := 24, slot := 6, constantValue := 0 }]
  methods := #[k7m0, k7m1, k7m2, k7m3, k7m4, k7m5, k7m6, k7m7, k7m8]
  instanceTypes := #[(.array .byte), .byte, .int, .boolean]
  staticTypes := #[.long, .boolean, (.array (.object "java/io/ObjectStreamField")), .char, (.object "java/util/Comparator"), .byte, .byte]
  resolved := Array.replicate 1451 none
  statics := some 0 }

def pool8 : Array CpInfo := pool [(2, .class_ 4), (1, u "java/lang/Enum"), (0, u "name"), (0, u "Ljava/lang/String;"), (2, u "ordinal"), (0, u "I"), (1, .class_ 14), (1, u "java/lang/Object"), (4, u "hash"), (86, .class_ 108), (1, u "java/lang/Enum$EnumDesc"), (2, .class_ 112), (0, u "java/lang/constant/Constable"), (0, .class_ 114), (0, u "java/lang/Comparable"), (0, .class_ 116), (0, u "java/io/Serializable")] 87

/-- java/lang/Enum -/
def k8 : Class := { plain "java/lang/Enum" (some 0) with
  accessFlags := 1057
  interfaces := #[5, 3, 2]
  cf := some (fileOf pool8 2 #[.nestMembers #[106]] #[] 1057 12 #[111, 113, 115] #[{ accessFlags := 18, nameIndex := 5, descriptorIndex := 6, attributes := #[] }, { accessFlags := 18, nameIndex := 9, descriptorIndex := 10, attributes := #[] }, { accessFlags := 2, nameIndex := 19, descriptorIndex := 10, attributes := #[] }])
  fields := #[{ name := "name", type := (.object "java/lang/String"), accessFlags := 18, slot := 0, constantValue := 0 }, { name := "ordinal", type := .int, accessFlags := 18, slot := 1, constantValue := 0 }, { name := "hash", type := .int, accessFlags := 2, slot := 2, constantValue := 0 }]
  methods := #[]
  instanceTypes := #[(.object "java/lang/String"), .int, .int]
  staticTypes := #[]
  resolved := Array.replicate 204 none
  statics := none }

def pool9 : Array CpInfo := pool [(1, .class_ 2), (0, u "com/example/llave/llave/policy/Objective"), (2, u "CONFIDENTIALITY"), (0, u "Lcom/example/llave/llave/policy/Objective;"), (2, u "INTEGRITY"), (2, u "AVAILABILITY"), (0, .fieldref 1 14), (0, .nameAndType 15 16), (0, u "$VALUES"), (0, u "[Lcom/example/llave/llave/policy/Objective;"), (0, .methodref 18 19), (0, .class_ 16), (0, .nameAndType 20 21), (0, u "clone"), (0, u "()Ljava/lang/Object;"), (1, .class_ 25), (1, u "java/lang/Enum"), (6, .fieldref 1 33), (0, .nameAndType 34 35), (0, u "word"), (0, u "Ljava/lang/String;"), (0, .methodref 37 38), (0, .class_ 39), (0, .nameAndType 40 41), (0, u "java/util/Optional"), (0, u "empty"), (0, u "()Ljava/util/Optional;"), (0, .methodref 1 43), (0, .nameAndType 44 45), (0, u "values"), (0, u "()[Lcom/example/llave/llave/policy/Objective;"), (0, .methodref 47 48), (0, .class_ 49), (0, .nameAndType 50 51), (0, u "java/lang/String"), (0, u "equals"), (0, u "(Ljava/lang/Object;)Z"), (0, .methodref 37 53), (0, .nameAndType 54 55), (0, u "of"), (0, u "(Ljava/lang/Object;)Ljava/util/Optional;"), (37, u "(Ljava/lang/String;)Ljava/util/Optional;")] 8

def k9c0 : Code := { maxStack := 1, maxLocals := 0, code := prog_14_method_1_code, exceptionTable := #[], attributes := #[] }
def k9m0 : Method := { name := "values", desc := "()[Lcom/example/llave/llave/policy/Objective;", sig := { parameters := [], returnType := some (.array (.object "com/example/llave/llave/policy/Objective")) }, accessFlags := 9, code := some k9c0 }
def k9c1 : Code := { maxStack := 2, maxLocals := 6, code := prog_14_method_4_code, exceptionTable := #[], attributes := #[] }
def k9m1 : Method := { name := "of", desc := "(Ljava/lang/String;)Ljava/util/Optional;", sig := { parameters := [(.object "java/lang/String")], returnType := some (.object "java/util/Optional") }, accessFlags := 8, code := some k9c1 }
/-- com/example/llave/llave/policy/Objective -/
def k9 : Class := { plain "com/example/llave/llave/policy/Objective" (some 8) with
  accessFlags := 16432
  interfaces := #[]
  cf := some (fileOf pool9 1 #[] #[{ accessFlags := 9, nameIndex := 44, descriptorIndex := 45, attributes := #[] }, { accessFlags := 8, nameIndex := 54, descriptorIndex := 93, attributes := #[] }] 16432 23 #[] #[{ accessFlags := 16409, nameIndex := 5, descriptorIndex := 6, attributes := #[] }, { accessFlags := 16409, nameIndex := 9, descriptorIndex := 6, attributes := #[] }, { accessFlags := 16409, nameIndex := 12, descriptorIndex := 6, attributes := #[] }, { accessFlags := 18, nameIndex := 34, descriptorIndex := 35, attributes := #[] }, { accessFlags := 4122, nameIndex := 15, descriptorIndex := 16, attributes := #[] }])
  fields := #[{ name := "CONFIDENTIALITY", type := (.object "com/example/llave/llave/policy/Objective"), accessFlags := 16409, slot := 0, constantValue := 0 }, { name := "INTEGRITY", type := (.object "com/example/llave/llave/policy/Objective"), accessFlags := 16409, slot := 1, constantValue := 0 }, { name := "AVAILABILITY", type := (.object "com/example/llave/llave/policy/Objective"), accessFlags := 16409, slot := 2, constantValue := 0 }, { name := "word", type := (.object "java/lang/String"), accessFlags := 18, slot := 3, constantValue := 0 }, { name := "$VALUES", type := (.array (.object "com/example/llave/llave/policy/Objective")), accessFlags := 4122, slot := 3, constantValue := 0 }]
  methods := #[k9m0, k9m1]
  instanceTypes := #[(.object "java/lang/String"), .int, .int, (.object "java/lang/String")]
  staticTypes := #[(.object "com/example/llave/llave/policy/Objective"), (.object "com/example/llave/llave/policy/Objective"), (.object "com/example/llave/llave/policy/Objective"), (.array (.object "com/example/llave/llave/policy/Objective"))]
  resolved := Array.replicate 102 none
  statics := some 1 }

def pool10 : Array CpInfo := pool [(1, .class_ 2), (0, u "java/lang/String"), (1, .class_ 6), (1, u "java/lang/Object"), (0, u "<init>"), (0, u "()V"), (0, .methodref 1 10), (0, .nameAndType 11 12), (0, u "checkIndex"), (0, u "(II)V"), (1, .class_ 16), (1, u "java/lang/StringLatin1"), (36, u "([BI)C"), (67, u "$assertionsDisabled"), (0, u "Z"), (98, .class_ 223), (1, u "java/lang/StringLatin1$LinesSpliterator"), (28, u "charAt"), (28, u "equals"), (0, u "([B[B)Z"), (107, .class_ 391), (0, u "java/lang/StringLatin1$CharsSpliterator")] 3

def k10m0 : Method := { name := "<init>", desc := "()V", sig := { parameters := [], returnType := none }, accessFlags := 0, code := none }
def k10c1 : Code := { maxStack := 2, maxLocals := 2, code := jdk_43_method_2_code, exceptionTable := #[], attributes := #[] }
def k10m1 : Method := { name := "charAt", desc := "([BI)C", sig := { parameters := [(.array .byte), .int], returnType := some .char }, accessFlags := 9, code := some k10c1 }
def k10c2 : Code := { maxStack := 3, maxLocals := 3, code := jdk_43_method_13_code, exceptionTable := #[], attributes := #[] }
def k10m2 : Method := { name := "equals", desc := "([B[B)Z", sig := { parameters := [(.array .byte), (.array .byte)], returnType := some .boolean }, accessFlags := 9, code := some k10c2 }
/-- java/lang/StringLatin1 -/
def k10 : Class := { plain "java/lang/StringLatin1" (some 0) with
  accessFlags := 48
  interfaces := #[]
  cf := some (fileOf pool10 14 #[.nestMembers #[390, 221]] #[{ accessFlags := 0, nameIndex := 7, descriptorIndex := 8, attributes := #[] }, { accessFlags := 9, nameIndex := 252, descriptorIndex := 53, attributes := #[] }, { accessFlags := 9, nameIndex := 281, descriptorIndex := 282, attributes := #[] }] 48 4 #[] #[{ accessFlags := 4120, nameIndex := 121, descriptorIndex := 122, attributes := #[] }])
  fields := #[{ name := "$assertionsDisabled", type := .boolean, accessFlags := 4120, slot := 0, constantValue := 0 }]
  methods := #[k10m0, k10m1, k10m2]
  instanceTypes := #[]
  staticTypes := #[.boolean]
  resolved := Array.replicate 395 none
  statics := none }

def pool11 : Array CpInfo := pool [(2, .class_ 4), (1, u "java/lang/Object"), (0, u "<init>"), (0, u "()V"), (17, .class_ 26), (1, u "jdk/internal/util/Preconditions"), (6, u "checkIndex"), (21, .class_ 56), (0, u "jdk/internal/util/Preconditions$4"), (57, .class_ 115), (0, u "jdk/internal/util/Preconditions$1"), (7, u "SIOOBE_FORMATTER"), (0, u "Ljava/util/function/BiFunction;"), (0, .class_ 126), (0, u "jdk/internal/util/Preconditions$2"), (3, u "AIOOBE_FORMATTER"), (0, .class_ 132), (0, u "jdk/internal/util/Preconditions$3"), (3, u "IOOBE_FORMATTER"), (41, u "(IILjava/util/function/BiFunction;)I")] 15

def k11m0 : Method := { name := "<init>", desc := "()V", sig := { parameters := [], returnType := none }, accessFlags := 1, code := none }
def k11c1 : Code := { maxStack := 3, maxLocals := 3, code := jdk_41_method_11_code, exceptionTable := #[], attributes := #[] }
def k11m1 : Method := { name := "checkIndex", desc := "(IILjava/util/function/BiFunction;)I", sig := { parameters := [.int, .int, (.object "java/util/function/BiFunction")], returnType := some .int }, accessFlags := 9, code := some k11c1 }
/-- jdk/internal/util/Preconditions -/
def k11 : Class := { plain "jdk/internal/util/Preconditions" (some 0) with
  accessFlags := 33
  interfaces := #[]
  cf := some (fileOf pool11 24 #[.nestMembers #[55, 131, 125, 114]] #[{ accessFlags := 1, nameIndex := 5, descriptorIndex := 6, attributes := #[] }, { accessFlags := 9, nameIndex := 33, descriptorIndex := 178, attributes := #[] }] 33 2 #[] #[{ accessFlags := 25, nameIndex := 123, descriptorIndex := 124, attributes := #[] }, { accessFlags := 25, nameIndex := 130, descriptorIndex := 124, attributes := #[] }, { accessFlags := 25, nameIndex := 136, descriptorIndex := 124, attributes := #[] }])
  fields := #[{ name := "SIOOBE_FORMATTER", type := (.object "java/util/function/BiFunction"), accessFlags := 25, slot := 0, constantValue := 0 }, { name := "AIOOBE_FORMATTER", type := (.object "java/util/function/BiFunction"), accessFlags := 25, slot := 1, constantValue := 0 }, { name := "IOOBE_FORMATTER", type := (.object "java/util/function/BiFunction"), accessFlags := 25, slot := 2, constantValue := 0 }]
  methods := #[k11m0, k11m1]
  instanceTypes := #[]
  staticTypes := #[(.object "java/util/function/BiFunction"), (.object "java/util/function/BiFunction"), (.object "java/util/function/BiFunction")]
  resolved := Array.replicate 194 none
  statics := some 2 }

def pool12 : Array CpInfo := pool [(6, .class_ 8), (1, u "java/lang/Object"), (0, u "<init>"), (0, u "()V"), (1, .class_ 14), (1, u "java/lang/StringUTF16"), (31, u "$assertionsDisabled"), (0, u "Z"), (13, u "HI_BYTE_SHIFT"), (0, u "I"), (2, u "LO_BYTE_SHIFT"), (49, .methodref 12 116), (0, .nameAndType 117 118), (0, u "compress"), (0, u "([CI[BII)I"), (3, u "([CII)[B"), (138, u "coderFromArrayLen"), (0, u "([BI)B"), (106, .class_ 371), (1, u "java/lang/StringUTF16$LinesSpliterator"), (58, u "MAX_LENGTH"), (196, .class_ 628), (0, u "java/lang/StringUTF16$CodePointsSpliterator"), (0, .class_ 630), (0, u "java/lang/StringUTF16$CharsSpliterator")] 4

def k12m0 : Method := { name := "<init>", desc := "()V", sig := { parameters := [], returnType := none }, accessFlags := 0, code := none }
def k12c1 : Code := { maxStack := 2, maxLocals := 2, code := jdk_52_method_15_code, exceptionTable := #[], attributes := #[] }
def k12m1 : Method := { name := "coderFromArrayLen", desc := "([BI)B", sig := { parameters := [(.array .byte), .int], returnType := some .byte }, accessFlags := 8, code := some k12c1 }
def k12c2 : Code := { maxStack := 5, maxLocals := 6, code := jdk_52_method_16_code, exceptionTable := #[], attributes := #[] }
def k12m2 : Method := { name := "compress", desc := "([CII)[B", sig := { parameters := [(.array .char), .int, .int], returnType := some (.array .byte) }, accessFlags := 9, code := some k12c2 }
def k12c3 : Code := { maxStack := 3, maxLocals := 7, code := jdk_52_method_21_code, exceptionTable := #[], attributes := #[] }
def k12m3 : Method := { name := "compress", desc := "([CI[BII)I", sig := { parameters := [(.array .char), .int, (.array .byte), .int, .int], returnType := some .int }, accessFlags := 9, code := some k12c3 }
/-- java/lang/StringUTF16 -/
def k12 : Class := { plain "java/lang/StringUTF16" (some 0) with
  accessFlags := 48
  interfaces := #[]
  cf := some (fileOf pool12 12 #[.nestMembers #[627, 629, 369]] #[{ accessFlags := 0, nameIndex := 9, descriptorIndex := 10, attributes := #[] }, { accessFlags := 8, nameIndex := 261, descriptorIndex := 262, attributes := #[] }, { accessFlags := 9, nameIndex := 117, descriptorIndex := 122, attributes := #[] }, { accessFlags := 9, nameIndex := 117, descriptorIndex := 118, attributes := #[] }] 48 6 #[] #[{ accessFlags := 26, nameIndex := 61, descriptorIndex := 62, attributes := #[] }, { accessFlags := 26, nameIndex := 65, descriptorIndex := 62, attributes := #[] }, { accessFlags := 24, nameIndex := 430, descriptorIndex := 62, attributes := #[] }, { accessFlags := 4120, nameIndex := 46, descriptorIndex := 47, attributes := #[] }])
  fields := #[{ name := "HI_BYTE_SHIFT", type := .int, accessFlags := 26, slot := 0, constantValue := 0 }, { name := "LO_BYTE_SHIFT", type := .int, accessFlags := 26, slot := 1, constantValue := 0 }, { name := "MAX_LENGTH", type := .int, accessFlags := 24, slot := 2, constantValue := 0 }, { name := "$assertionsDisabled", type := .boolean, accessFlags := 4120, slot := 3, constantValue := 0 }]
  methods := #[k12m0, k12m1, k12m2, k12m3]
  instanceTypes := #[]
  staticTypes := #[.int, .int, .int, .boolean]
  resolved := Array.replicate 635 none
  statics := none }

def pool13 : Array CpInfo := pool [(1, .fieldref 2 3), (0, .class_ 4), (0, .nameAndType 5 6), (0, u "java/util/Optional"), (0, u "EMPTY"), (0, u "Ljava/util/Optional;"), (0, .methodref 8 9), (0, .class_ 10), (0, .nameAndType 11 12), (0, u "java/lang/Object"), (0, u "<init>"), (0, u "()V"), (0, .fieldref 2 14), (0, .nameAndType 15 16), (0, u "value"), (0, u "Ljava/lang/Object;"), (0, .methodref 18 19), (0, .class_ 20), (0, .nameAndType 21 22), (0, u "java/util/Objects"), (0, u "requireNonNull"), (0, u "(Ljava/lang/Object;)Ljava/lang/Object;"), (0, .methodref 2 24), (0, .nameAndType 11 25), (0, u "(Ljava/lang/Object;)V"), (29, u "empty"), (0, u "()Ljava/util/Optional;"), (8, u "(Ljava/lang/Object;)Ljava/util/Optional;"), (16, u "of"), (82, u "orElse")] 21

def k13c0 : Code := { maxStack := 1, maxLocals := 1, code := jdk_32_method_1_code, exceptionTable := #[], attributes := #[] }
def k13m0 : Method := { name := "empty", desc := "()Ljava/util/Optional;", sig := { parameters := [], returnType := some (.object "java/util/Optional") }, accessFlags := 9, code := some k13c0 }
def k13c1 : Code := { maxStack := 2, maxLocals := 2, code := jdk_32_method_2_code, exceptionTable := #[], attributes := #[] }
def k13m1 : Method := { name := "<init>", desc := "(Ljava/lang/Object;)V", sig := { parameters := [(.object "java/lang/Object")], returnType := none }, accessFlags := 2, code := some k13c1 }
def k13c2 : Code := { maxStack := 3, maxLocals := 1, code := jdk_32_method_3_code, exceptionTable := #[], attributes := #[] }
def k13m2 : Method := { name := "of", desc := "(Ljava/lang/Object;)Ljava/util/Optional;", sig := { parameters := [(.object "java/lang/Object")], returnType := some (.object "java/util/Optional") }, accessFlags := 9, code := some k13c2 }
def k13c3 : Code := { maxStack := 1, maxLocals := 2, code := jdk_32_method_15_code, exceptionTable := #[], attributes := #[] }
def k13m3 : Method := { name := "orElse", desc := "(Ljava/lang/Object;)Ljava/lang/Object;", sig := { parameters := [(.object "java/lang/Object")], returnType := some (.object "java/lang/Object") }, accessFlags := 1, code := some k13c3 }
/-- java/util/Optional -/
def k13 : Class := { plain "java/util/Optional" (some 0) with
  accessFlags := 49
  interfaces := #[]
  cf := some (fileOf pool13 2 #[] #[{ accessFlags := 9, nameIndex := 55, descriptorIndex := 56, attributes := #[] }, { accessFlags := 2, nameIndex := 11, descriptorIndex := 25, attributes := #[] }, { accessFlags := 9, nameIndex := 82, descriptorIndex := 65, attributes := #[] }, { accessFlags := 1, nameIndex := 165, descriptorIndex := 22, attributes := #[] }] 49 8 #[] #[{ accessFlags := 26, nameIndex := 5, descriptorIndex := 6, attributes := #[] }, { accessFlags := 18, nameIndex := 15, descriptorIndex := 16, attributes := #[] }])
  fields := #[{ name := "EMPTY", type := (.object "java/util/Optional"), accessFlags := 26, slot := 0, constantValue := 0 }, { name := "value", type := (.object "java/lang/Object"), accessFlags := 18, slot := 0, constantValue := 0 }]
  methods := #[k13m0, k13m1, k13m2, k13m3]
  instanceTypes := #[(.object "java/lang/Object")]
  staticTypes := #[(.object "java/util/Optional")]
  resolved := Array.replicate 187 none
  statics := some 3 }

def pool14 : Array CpInfo := pool [(1, .class_ 2), (0, u "java/lang/Cloneable"), (0, .class_ 4), (0, u "java/lang/Object")] 2

/-- java/lang/Cloneable -/
def k14 : Class := { plain "java/lang/Cloneable" (some 0) with
  accessFlags := 1537
  interfaces := #[]
  cf := some (fileOf pool14 1 #[] #[] 1537 3 #[] #[])
  fields := #[]
  methods := #[]
  instanceTypes := #[]
  staticTypes := #[]
  resolved := Array.replicate 7 none
  statics := none }

def pool15 : Array CpInfo := pool [(2, .class_ 4), (1, u "java/lang/Object"), (0, u "<init>"), (0, u "()V"), (35, .class_ 44), (1, u "java/util/Objects"), (0, u "requireNonNull"), (0, u "(Ljava/lang/Object;)Ljava/lang/Object;")] 137

def k15m0 : Method := { name := "<init>", desc := "()V", sig := { parameters := [], returnType := none }, accessFlags := 2, code := none }
def k15c1 : Code := { maxStack := 2, maxLocals := 1, code := jdk_31_method_10_code, exceptionTable := #[], attributes := #[] }
def k15m1 : Method := { name := "requireNonNull", desc := "(Ljava/lang/Object;)Ljava/lang/Object;", sig := { parameters := [(.object "java/lang/Object")], returnType := some (.object "java/lang/Object") }, accessFlags := 9, code := some k15c1 }
/-- java/util/Objects -/
def k15 : Class := { plain "java/util/Objects" (some 0) with
  accessFlags := 49
  interfaces := #[]
  cf := some (fileOf pool15 42 #[] #[{ accessFlags := 2, nameIndex := 5, descriptorIndex := 6, attributes := #[] }, { accessFlags := 9, nameIndex := 45, descriptorIndex := 46, attributes := #[] }] 49 2 #[] #[])
  fields := #[]
  methods := #[k15m0, k15m1]
  instanceTypes := #[]
  staticTypes := #[]
  resolved := Array.replicate 184 none
  statics := none }

def pool16 : Array CpInfo := pool [(9, u "<init>"), (6, .class_ 18), (1, u "java/lang/Object"), (0, u "()V"), (1, .class_ 23), (1, u "jdk/internal/util/ArraysSupport"), (0, u "LOG2_ARRAY_LONG_INDEX_SCALE"), (0, u "I"), (2, u "U"), (0, u "Ljdk/internal/misc/Unsafe;"), (8, u "BIG_ENDIAN"), (0, u "Z"), (8, u "LOG2_BYTE_BIT_SIZE"), (4, u "LOG2_ARRAY_INT_INDEX_SCALE"), (54, u "JLA"), (0, u "Ljdk/internal/access/JavaLangAccess;"), (11, u "LOG2_ARRAY_BOOLEAN_INDEX_SCALE"), (9, u "LOG2_ARRAY_BYTE_INDEX_SCALE"), (5, u "LOG2_ARRAY_CHAR_INDEX_SCALE"), (5, u "LOG2_ARRAY_SHORT_INDEX_SCALE"), (18, u "LOG2_ARRAY_FLOAT_INDEX_SCALE"), (24, u "LOG2_ARRAY_DOUBLE_INDEX_SCALE"), (89, u "T_BOOLEAN"), (2, u "T_CHAR"), (1, u "T_FLOAT"), (1, u "T_DOUBLE"), (1, u "T_BYTE"), (1, u "T_SHORT"), (1, u "T_INT"), (1, u "T_LONG"), (1, u "SOFT_MAX_ARRAY_LENGTH")] 83

def k16m0 : Method := { name := "<init>", desc := "()V", sig := { parameters := [], returnType := none }, accessFlags := 2, code := none }
/-- jdk/internal/util/ArraysSupport -/
def k16 : Class := { plain "jdk/internal/util/ArraysSupport" (some 0) with
  accessFlags := 33
  interfaces := #[]
  cf := some (fileOf pool16 21 #[] #[{ accessFlags := 2, nameIndex := 9, descriptorIndex := 19, attributes := #[] }] 33 16 #[] #[{ accessFlags := 24, nameIndex := 28, descriptorIndex := 29, attributes := #[] }, { accessFlags := 26, nameIndex := 38, descriptorIndex := 39, attributes := #[] }, { accessFlags := 25, nameIndex := 121, descriptorIndex := 25, attributes := #[] }, { accessFlags := 25, nameIndex := 131, descriptorIndex := 25, attributes := #[] }, { accessFlags := 25, nameIndex := 137, descriptorIndex := 25, attributes := #[] }, { accessFlags := 25, nameIndex := 143, descriptorIndex := 25, attributes := #[] }, { accessFlags := 25, nameIndex := 53, descriptorIndex := 25, attributes := #[] }, { accessFlags := 25, nameIndex := 24, descriptorIndex := 25, attributes := #[] }, { accessFlags := 25, nameIndex := 162, descriptorIndex := 25, attributes := #[] }, { accessFlags := 25, nameIndex := 187, descriptorIndex := 25, attributes := #[] }, { accessFlags := 26, nameIndex := 48, descriptorIndex := 25, attributes := #[] }, { accessFlags := 25, nameIndex := 277, descriptorIndex := 25, attributes := #[] }, { accessFlags := 25, nameIndex := 280, descriptorIndex := 25, attributes := #[] }, { accessFlags := 25, nameIndex := 282, descriptorIndex := 25, attributes := #[] }, { accessFlags := 25, nameIndex := 284, descriptorIndex := 25, attributes := #[] }, { accessFlags := 25, nameIndex := 286, descriptorIndex := 25, attributes := #[] }, { accessFlags := 25, nameIndex := 288, descriptorIndex := 25, attributes := #[] }, { accessFlags := 25, nameIndex := 290, descriptorIndex := 25, attributes := #[] }, { accessFlags := 25, nameIndex := 292, descriptorIndex := 25, attributes := #[] }, { accessFlags := 26, nameIndex := 108, descriptorIndex := 109, attributes := #[] }, { accessFlags := 25, nameIndex := 294, descriptorIndex := 25, attributes := #[] }])
  fields := #[{ name := "U", type := (.object "jdk/internal/misc/Unsafe"), accessFlags := 24, slot := 0, constantValue := 0 }, { name := "BIG_ENDIAN", type := .boolean, accessFlags := 26, slot := 1, constantValue := 0 }, { name := "LOG2_ARRAY_BOOLEAN_INDEX_SCALE", type := .int, accessFlags := 25, slot := 2, constantValue := 0 }, { name := "LOG2_ARRAY_BYTE_INDEX_SCALE", type := .int, accessFlags := 25, slot := 3, constantValue := 0 }, { name := "LOG2_ARRAY_CHAR_INDEX_SCALE", type := .int, accessFlags := 25, slot := 4, constantValue := 0 }, { name := "LOG2_ARRAY_SHORT_INDEX_SCALE", type := .int, accessFlags := 25, slot := 5, constantValue := 0 }, { name := "LOG2_ARRAY_INT_INDEX_SCALE", type := .int, accessFlags := 25, slot := 6, constantValue := 0 }, { name := "LOG2_ARRAY_LONG_INDEX_SCALE", type := .int, accessFlags := 25, slot := 7, constantValue := 0 }, { name := "LOG2_ARRAY_FLOAT_INDEX_SCALE", type := .int, accessFlags := 25, slot := 8, constantValue := 0 }, { name := "LOG2_ARRAY_DOUBLE_INDEX_SCALE", type := .int, accessFlags := 25, slot := 9, constantValue := 0 }, { name := "LOG2_BYTE_BIT_SIZE", type := .int, accessFlags := 26, slot := 10, constantValue := 0 }, { name := "T_BOOLEAN", type := .int, accessFlags := 25, slot := 11, constantValue := 0 }, { name := "T_CHAR", type := .int, accessFlags := 25, slot := 12, constantValue := 0 }, { name := "T_FLOAT", type := .int, accessFlags := 25, slot := 13, constantValue := 0 }, { name := "T_DOUBLE", type := .int, accessFlags := 25, slot := 14, constantValue := 0 }, { name := "T_BYTE", type := .int, accessFlags := 25, slot := 15, constantValue := 0 }, { name := "T_SHORT", type := .int, accessFlags := 25, slot := 16, constantValue := 0 }, { name := "T_INT", type := .int, accessFlags := 25, slot := 17, constantValue := 0 }, { name := "T_LONG", type := .int, accessFlags := 25, slot := 18, constantValue := 0 }, { name := "JLA", type := (.object "jdk/internal/access/JavaLangAccess"), accessFlags := 26, slot := 19, constantValue := 0 }, { name := "SOFT_MAX_ARRAY_LENGTH", type := .int, accessFlags := 25, slot := 20, constantValue := 0 }]
  methods := #[k16m0]
  instanceTypes := #[]
  staticTypes := #[(.object "jdk/internal/misc/Unsafe"), .boolean, .int, .int, .int, .int, .int, .int, .int, .int, .int, .int, .int, .int, .int, .int, .int, .int, .int, (.object "jdk/internal/access/JavaLangAccess"), .int]
  resolved := Array.replicate 378 none
  statics := none }

/-- the primitive byte -/
def k17 : Class := { plain "byte" none with kind := .primitive 'B', accessFlags := 0x411 }
/-- [B -/
def k18 : Class := { plain "[B" (some 0) with kind := .array 17 .byte, interfaces := #[14, 2], accessFlags := 1041 }

/-- the primitive char -/
def k19 : Class := { plain "char" none with kind := .primitive 'C', accessFlags := 0x411 }
/-- [C -/
def k20 : Class := { plain "[C" (some 0) with kind := .array 19 .char, interfaces := #[14, 2], accessFlags := 1041 }

/-- the primitive int -/
def k21 : Class := { plain "int" none with kind := .primitive 'I', accessFlags := 0x411 }
/-- [I -/
def k22 : Class := { plain "[I" (some 0) with kind := .array 21 .int, interfaces := #[14, 2], accessFlags := 1041 }

/-- [Lcom/example/llave/llave/policy/Objective; -/
def k23 : Class := { plain "[Lcom/example/llave/llave/policy/Objective;" (some 0) with kind := .array 9 (.object "com/example/llave/llave/policy/Objective"), interfaces := #[14, 2], accessFlags := 1041 }

def heap : Heap := #[{ cls := 7, slots := #[.long 0, .int 1, .null, .int 0, .null, .int 0, .int 0], vm := .statics 7 },
  { cls := 9, slots := #[.ref 5, .ref 6, .ref 7, .ref 4], vm := .statics 9 },
  { cls := 11, slots := #[.null, .null, .null], vm := .statics 11 },
  { cls := 13, slots := #[.ref 14], vm := .statics 13 },
  { cls := 23, slots := #[.ref 5, .ref 6, .ref 7], vm := .none },
  { cls := 9, slots := #[.null, .int 0, .int 0, .ref 8], vm := .none },
  { cls := 9, slots := #[.null, .int 1, .int 0, .ref 9], vm := .none },
  { cls := 9, slots := #[.null, .int 2, .int 0, .ref 10], vm := .none },
  { cls := 7, slots := #[.ref 11, .int 0, .int 0, .int 0], vm := .none },
  { cls := 7, slots := #[.ref 12, .int 0, .int 0, .int 0], vm := .none },
  { cls := 7, slots := #[.ref 13, .int 0, .int 0, .int 0], vm := .none },
  { cls := 18, slots := #[.int 99, .int 111, .int 110, .int 102, .int 105, .int 100, .int 101, .int 110, .int 116, .int 105, .int 97, .int 108, .int 105, .int 116, .int 121], vm := .none },
  { cls := 18, slots := #[.int 105, .int 110, .int 116, .int 101, .int 103, .int 114, .int 105, .int 116, .int 121], vm := .none },
  { cls := 18, slots := #[.int 97, .int 118, .int 97, .int 105, .int 108, .int 97, .int 98, .int 105, .int 108, .int 105, .int 116, .int 121], vm := .none },
  { cls := 13, slots := #[.null], vm := .none }]
def classes : Array Class := #[k0, k1, k2, k3, k4, k5, k6, k7, k8, k9, k10, k11, k12, k13, k14, k15, k16, k17, k18, k19, k20, k21, k22, k23]
def interned : List (Array UInt16 × Addr) := []
def slotsUsed : Nat := 79
def theMethod : MethodId := ⟨1, 4⟩
def args0 : Array Value := #[.int 1, .int 2, .int 3, .int 4]
def aboutOver (below : List Frame) : State where
  vm := { classes := classes, interned := interned.toArray }
  heap := heap
  slotsUsed := slotsUsed
  threads := #[{ frames := .invoking theMethod args0 :: below }]
def below0 : List Frame := [.native { method := ⟨0, 0⟩, args := #[] }]
def about1 : State := aboutOver below0
def p0 : Program := .bare "" "" ""
def e0 : Env := launch0.env 0 0 0
theorem w_frames : about1.frames = Frame.invoking theMethod args0 :: below0 := rfl
set_option maxRecDepth 65536 in
theorem w_args : argsFit about1.vm theMethod args0 = true := by decide +kernel
set_option maxRecDepth 65536 in
theorem w_heap : heapFits about1 = true := by decide +kernel
set_option maxRecDepth 65536 in
theorem w_runnable : about1.curStatus? = some .runnable := by decide +kernel
set_option maxRecDepth 65536 in
theorem w_alone : about1.alone = true := by decide +kernel
set_option maxRecDepth 65536 in
theorem w_named : about1.methodNamed? x = some theMethod := by decide +kernel
set_option maxRecDepth 65536 in
theorem w_hears : about1.hears theMethod below0 = true := by decide +kernel
set_option maxRecDepth 65536 in
theorem w_ripe : about1.ripe theMethod args0 below0 = true := by decide +kernel
theorem w_running : about1.status = .running := rfl
set_option maxRecDepth 65536 in
theorem w_room : about1.hasRoom e0.platform room_1 = true :=
  launch0.hasRoom_least _ room_1 (by decide +kernel) (by decide +kernel) (by decide +kernel) (by decide +kernel) (by decide +kernel) (by decide +kernel)
theorem allAtoms_all (ts : List Jvm.Cond) (a : Array Jvm.Value) (st : Jvm.State) : (allAtoms ts).before a st = ts.all (fun c => c.before a st) := by
  induction ts with
  | nil => rfl
  | cons c t ih =>
    show (Jvm.Cond.and c (allAtoms t)).before a st = _
    rw [Jvm.Cond.before_and, ih, List.all_cons]
def words1 : List Jvm.Cond := Jvm.Cond.code x code maxLocals ret :: tables_1
/-- a 'code' word, met by the world's own term for the bytes: nothing is compared byte by byte -/
theorem code_word {y : MethodName} {bytes : ByteArray} {mx : Nat} {rt : Option FieldType} {a : Array Value} {s : State} {m : MethodId} {meth : Method} {c : Code} (h1 : s.methodNamed? y = some m) (h2 : s.vm.method? m = some meth) (h3 : meth.code = some c) (h4 : c.code = bytes)
    (h5 : (c.maxLocals == mx && c.exceptionTable.isEmpty && decide (c.maxStack ≤ mostOperands) && decide (meth.sig.returnType = rt) && !meth.locks && decide (parseMethodDescriptor y.desc = some meth.sig)) = true) : (Jvm.Cond.code y bytes mx rt).before a s = true := by
  simp only [Bool.and_eq_true, beq_iff_eq, Bool.not_eq_true', decide_eq_true_eq] at h5
  obtain ⟨⟨⟨⟨⟨g1, g2⟩, g3⟩, g4⟩, g5⟩, g6⟩ := h5
  simp [Cond.before, Cond.holds, Cond.value, h1, h2, h3, h4, g1, g2, g3, g4, g5, g6]
def isCode : Jvm.Cond → Bool
  | .code _ _ _ _ => true
  | _ => false
theorem all_split {L : List Jvm.Cond} {P : Jvm.Cond → Bool} (h1 : L.all (fun c => isCode c || P c) = true) (h2 : ∀ c ∈ L.filter isCode, P c = true) : L.all P = true := by
  refine List.all_eq_true.mpr fun c hc => ?_
  have h := List.all_eq_true.mp h1 c hc
  rcases Bool.eq_false_or_eq_true (isCode c) with hi | hi
  · exact h2 c (List.mem_filter.mpr ⟨hc, hi⟩)
  · simpa [hi] using h
set_option maxRecDepth 65536 in
theorem w_c0 : (Jvm.Cond.code x code maxLocals ret).before args0 about1 = true := code_word (m := ⟨1, 4⟩) (meth := k1m4) (c := k1c4) (by decide +kernel) rfl rfl rfl (by decide +kernel)
set_option maxRecDepth 65536 in
theorem w_c1 : (Jvm.Cond.code ({ cls := "java/lang/String", name := "length", desc := "()I" } : Jvm.MethodName) jdk_42_method_54_code (1 : Nat) (Option.some Jvm.ClassFile.FieldType.int)).before args0 about1 = true := code_word (m := ⟨7, 2⟩) (meth := k7m2) (c := k7c2) (by decide +kernel) rfl rfl rfl (by decide +kernel)
set_option maxRecDepth 65536 in
theorem w_c2 : (Jvm.Cond.code ({ cls := "java/lang/String", name := "coder", desc := "()B" } : Jvm.MethodName) jdk_42_method_152_code (1 : Nat) (Option.some Jvm.ClassFile.FieldType.byte)).before args0 about1 = true := code_word (m := ⟨7, 6⟩) (meth := k7m6) (c := k7c6) (by decide +kernel) rfl rfl rfl (by decide +kernel)
set_option maxRecDepth 65536 in
theorem w_c3 : (Jvm.Cond.code ({ cls := "com/example/llave/llave/policy/ObjectiveOfPinLaw", name := "make", desc := "(Ljava/lang/String;IC)Ljava/lang/String;" } : Jvm.MethodName) method_3_code (4 : Nat) (Option.some (Jvm.ClassFile.FieldType.object "java/lang/String"))).before args0 about1 = true := code_word (m := ⟨1, 2⟩) (meth := k1m2) (c := k1c2) (by decide +kernel) rfl rfl rfl (by decide +kernel)
set_option maxRecDepth 65536 in
theorem w_c4 : (Jvm.Cond.code ({ cls := "com/example/llave/llave/policy/ObjectiveOfPinLaw", name := "at", desc := "(Ljava/lang/String;IC)C" } : Jvm.MethodName) method_2_code (3 : Nat) (Option.some Jvm.ClassFile.FieldType.char)).before args0 about1 = true := code_word (m := ⟨1, 1⟩) (meth := k1m1) (c := k1c1) (by decide +kernel) rfl rfl rfl (by decide +kernel)
set_option maxRecDepth 65536 in
theorem w_c5 : (Jvm.Cond.code ({ cls := "java/lang/String", name := "charAt", desc := "(I)C" } : Jvm.MethodName) jdk_42_method_56_code (2 : Nat) (Option.some Jvm.ClassFile.FieldType.char)).before args0 about1 = true := code_word (m := ⟨7, 3⟩) (meth := k7m3) (c := k7c3) (by decide +kernel) rfl rfl rfl (by decide +kernel)
set_option maxRecDepth 65536 in
theorem w_c6 : (Jvm.Cond.code ({ cls := "java/lang/String", name := "isLatin1", desc := "()Z" } : Jvm.MethodName) jdk_42_method_154_code (1 : Nat) (Option.some Jvm.ClassFile.FieldType.boolean)).before args0 about1 = true := code_word (m := ⟨7, 7⟩) (meth := k7m7) (c := k7c7) (by decide +kernel) rfl rfl rfl (by decide +kernel)
set_option maxRecDepth 65536 in
theorem w_c7 : (Jvm.Cond.code ({ cls := "java/lang/StringLatin1", name := "charAt", desc := "([BI)C" } : Jvm.MethodName) jdk_43_method_2_code (2 : Nat) (Option.some Jvm.ClassFile.FieldType.char)).before args0 about1 = true := code_word (m := ⟨10, 1⟩) (meth := k10m1) (c := k10c1) (by decide +kernel) rfl rfl rfl (by decide +kernel)
set_option maxRecDepth 65536 in
theorem w_c8 : (Jvm.Cond.code ({ cls := "java/lang/String", name := "checkIndex", desc := "(II)V" } : Jvm.MethodName) jdk_42_method_155_code (2 : Nat) (Option.none : Option Jvm.ClassFile.FieldType)).before args0 about1 = true := code_word (m := ⟨7, 8⟩) (meth := k7m8) (c := k7c8) (by decide +kernel) rfl rfl rfl (by decide +kernel)
set_option maxRecDepth 65536 in
theorem w_c9 : (Jvm.Cond.code ({ cls := "jdk/internal/util/Preconditions", name := "checkIndex", desc := "(IILjava/util/function/BiFunction;)I" } : Jvm.MethodName) jdk_41_method_11_code (3 : Nat) (Option.some Jvm.ClassFile.FieldType.int)).before args0 about1 = true := code_word (m := ⟨11, 1⟩) (meth := k11m1) (c := k11c1) (by decide +kernel) rfl rfl rfl (by decide +kernel)
set_option maxRecDepth 65536 in
theorem w_c10 : (Jvm.Cond.code ({ cls := "java/lang/String", name := "<init>", desc := "([C)V" } : Jvm.MethodName) jdk_42_method_3_code (2 : Nat) (Option.none : Option Jvm.ClassFile.FieldType)).before args0 about1 = true := code_word (m := ⟨7, 1⟩) (meth := k7m1) (c := k7c1) (by decide +kernel) rfl rfl rfl (by decide +kernel)
set_option maxRecDepth 65536 in
theorem w_c11 : (Jvm.Cond.code ({ cls := "java/lang/String", name := "<init>", desc := "([CIILjava/lang/Void;)V" } : Jvm.MethodName) jdk_42_method_149_code (6 : Nat) (Option.none : Option Jvm.ClassFile.FieldType)).before args0 about1 = true := code_word (m := ⟨7, 5⟩) (meth := k7m5) (c := k7c5) (by decide +kernel) rfl rfl rfl (by decide +kernel)
set_option maxRecDepth 65536 in
theorem w_c12 : (Jvm.Cond.code ({ cls := "java/lang/Object", name := "<init>", desc := "()V" } : Jvm.MethodName) object_method_1_code (1 : Nat) (Option.none : Option Jvm.ClassFile.FieldType)).before args0 about1 = true := code_word (m := ⟨0, 0⟩) (meth := k0m0) (c := k0c0) (by decide +kernel) rfl rfl rfl (by decide +kernel)
set_option maxRecDepth 65536 in
theorem w_c13 : (Jvm.Cond.code ({ cls := "java/lang/StringUTF16", name := "compress", desc := "([CII)[B" } : Jvm.MethodName) jdk_52_method_16_code (6 : Nat) (Option.some (Jvm.ClassFile.FieldType.array Jvm.ClassFile.FieldType.byte))).before args0 about1 = true := code_word (m := ⟨12, 2⟩) (meth := k12m2) (c := k12c2) (by decide +kernel) rfl rfl rfl (by decide +kernel)
set_option maxRecDepth 65536 in
theorem w_c14 : (Jvm.Cond.code ({ cls := "java/lang/StringUTF16", name := "compress", desc := "([CI[BII)I" } : Jvm.MethodName) jdk_52_method_21_code (7 : Nat) (Option.some Jvm.ClassFile.FieldType.int)).before args0 about1 = true := code_word (m := ⟨12, 3⟩) (meth := k12m3) (c := k12c3) (by decide +kernel) rfl rfl rfl (by decide +kernel)
set_option maxRecDepth 65536 in
theorem w_c15 : (Jvm.Cond.code ({ cls := "java/lang/StringUTF16", name := "coderFromArrayLen", desc := "([BI)B" } : Jvm.MethodName) jdk_52_method_15_code (2 : Nat) (Option.some Jvm.ClassFile.FieldType.byte)).before args0 about1 = true := code_word (m := ⟨12, 1⟩) (meth := k12m1) (c := k12c1) (by decide +kernel) rfl rfl rfl (by decide +kernel)
set_option maxRecDepth 65536 in
theorem w_c16 : (Jvm.Cond.code ({ cls := "com/example/llave/llave/policy/Objective", name := "of", desc := "(Ljava/lang/String;)Ljava/util/Optional;" } : Jvm.MethodName) prog_14_method_4_code (6 : Nat) (Option.some (Jvm.ClassFile.FieldType.object "java/util/Optional"))).before args0 about1 = true := code_word (m := ⟨9, 1⟩) (meth := k9m1) (c := k9c1) (by decide +kernel) rfl rfl rfl (by decide +kernel)
set_option maxRecDepth 65536 in
theorem w_c17 : (Jvm.Cond.code ({ cls := "java/util/Optional", name := "empty", desc := "()Ljava/util/Optional;" } : Jvm.MethodName) jdk_32_method_1_code (1 : Nat) (Option.some (Jvm.ClassFile.FieldType.object "java/util/Optional"))).before args0 about1 = true := code_word (m := ⟨13, 0⟩) (meth := k13m0) (c := k13c0) (by decide +kernel) rfl rfl rfl (by decide +kernel)
set_option maxRecDepth 65536 in
theorem w_c18 : (Jvm.Cond.code ({ cls := "com/example/llave/llave/policy/Objective", name := "values", desc := "()[Lcom/example/llave/llave/policy/Objective;" } : Jvm.MethodName) prog_14_method_1_code (0 : Nat) (Option.some (Jvm.ClassFile.FieldType.array (Jvm.ClassFile.FieldType.object "com/example/llave/llave/policy/Objective")))).before args0 about1 = true := code_word (m := ⟨9, 0⟩) (meth := k9m0) (c := k9c0) (by decide +kernel) rfl rfl rfl (by decide +kernel)
set_option maxRecDepth 65536 in
theorem w_c19 : (Jvm.Cond.code ({ cls := "java/lang/String", name := "equals", desc := "(Ljava/lang/Object;)Z" } : Jvm.MethodName) jdk_42_method_66_code (3 : Nat) (Option.some Jvm.ClassFile.FieldType.boolean)).before args0 about1 = true := code_word (m := ⟨7, 4⟩) (meth := k7m4) (c := k7c4) (by decide +kernel) rfl rfl rfl (by decide +kernel)
set_option maxRecDepth 65536 in
theorem w_c20 : (Jvm.Cond.code ({ cls := "java/lang/StringLatin1", name := "equals", desc := "([B[B)Z" } : Jvm.MethodName) jdk_43_method_13_code (3 : Nat) (Option.some Jvm.ClassFile.FieldType.boolean)).before args0 about1 = true := code_word (m := ⟨10, 2⟩) (meth := k10m2) (c := k10c2) (by decide +kernel) rfl rfl rfl (by decide +kernel)
set_option maxRecDepth 65536 in
theorem w_c21 : (Jvm.Cond.code ({ cls := "java/util/Optional", name := "orElse", desc := "(Ljava/lang/Object;)Ljava/lang/Object;" } : Jvm.MethodName) jdk_32_method_15_code (2 : Nat) (Option.some (Jvm.ClassFile.FieldType.object "java/lang/Object"))).before args0 about1 = true := code_word (m := ⟨13, 3⟩) (meth := k13m3) (c := k13c3) (by decide +kernel) rfl rfl rfl (by decide +kernel)
set_option maxRecDepth 65536 in
theorem w_c22 : (Jvm.Cond.code ({ cls := "com/example/llave/llave/policy/ObjectiveOfPinLaw", name := "mutate", desc := "(Ljava/lang/String;IIC)Ljava/lang/String;" } : Jvm.MethodName) method_4_code (5 : Nat) (Option.some (Jvm.ClassFile.FieldType.object "java/lang/String"))).before args0 about1 = true := code_word (m := ⟨1, 3⟩) (meth := k1m3) (c := k1c3) (by decide +kernel) rfl rfl rfl (by decide +kernel)
set_option maxRecDepth 65536 in
theorem w_c23 : (Jvm.Cond.code ({ cls := "java/util/Optional", name := "of", desc := "(Ljava/lang/Object;)Ljava/util/Optional;" } : Jvm.MethodName) jdk_32_method_3_code (1 : Nat) (Option.some (Jvm.ClassFile.FieldType.object "java/util/Optional"))).before args0 about1 = true := code_word (m := ⟨13, 2⟩) (meth := k13m2) (c := k13c2) (by decide +kernel) rfl rfl rfl (by decide +kernel)
set_option maxRecDepth 65536 in
theorem w_c24 : (Jvm.Cond.code ({ cls := "java/util/Objects", name := "requireNonNull", desc := "(Ljava/lang/Object;)Ljava/lang/Object;" } : Jvm.MethodName) jdk_31_method_10_code (1 : Nat) (Option.some (Jvm.ClassFile.FieldType.object "java/lang/Object"))).before args0 about1 = true := code_word (m := ⟨15, 1⟩) (meth := k15m1) (c := k15c1) (by decide +kernel) rfl rfl rfl (by decide +kernel)
set_option maxRecDepth 65536 in
theorem w_c25 : (Jvm.Cond.code ({ cls := "java/util/Optional", name := "<init>", desc := "(Ljava/lang/Object;)V" } : Jvm.MethodName) jdk_32_method_2_code (2 : Nat) (Option.none : Option Jvm.ClassFile.FieldType)).before args0 about1 = true := code_word (m := ⟨13, 1⟩) (meth := k13m1) (c := k13c1) (by decide +kernel) rfl rfl rfl (by decide +kernel)
def codes1 : List Jvm.Cond := [Jvm.Cond.code x code maxLocals ret, Jvm.Cond.code ({ cls := "java/lang/String", name := "length", desc := "()I" } : Jvm.MethodName) jdk_42_method_54_code (1 : Nat) (Option.some Jvm.ClassFile.FieldType.int), Jvm.Cond.code ({ cls := "java/lang/String", name := "coder", desc := "()B" } : Jvm.MethodName) jdk_42_method_152_code (1 : Nat) (Option.some Jvm.ClassFile.FieldType.byte), Jvm.Cond.code ({ cls := "com/example/llave/llave/policy/ObjectiveOfPinLaw", name := "make", desc := "(Ljava/lang/String;IC)Ljava/lang/String;" } : Jvm.MethodName) method_3_code (4 : Nat) (Option.some (Jvm.ClassFile.FieldType.object "java/lang/String")), Jvm.Cond.code ({ cls := "com/example/llave/llave/policy/ObjectiveOfPinLaw", name := "at", desc := "(Ljava/lang/String;IC)C" } : Jvm.MethodName) method_2_code (3 : Nat) (Option.some Jvm.ClassFile.FieldType.char), Jvm.Cond.code ({ cls := "java/lang/String", name := "charAt", desc := "(I)C" } : Jvm.MethodName) jdk_42_method_56_code (2 : Nat) (Option.some Jvm.ClassFile.FieldType.char), Jvm.Cond.code ({ cls := "java/lang/String", name := "isLatin1", desc := "()Z" } : Jvm.MethodName) jdk_42_method_154_code (1 : Nat) (Option.some Jvm.ClassFile.FieldType.boolean), Jvm.Cond.code ({ cls := "java/lang/StringLatin1", name := "charAt", desc := "([BI)C" } : Jvm.MethodName) jdk_43_method_2_code (2 : Nat) (Option.some Jvm.ClassFile.FieldType.char), Jvm.Cond.code ({ cls := "java/lang/String", name := "checkIndex", desc := "(II)V" } : Jvm.MethodName) jdk_42_method_155_code (2 : Nat) (Option.none : Option Jvm.ClassFile.FieldType), Jvm.Cond.code ({ cls := "jdk/internal/util/Preconditions", name := "checkIndex", desc := "(IILjava/util/function/BiFunction;)I" } : Jvm.MethodName) jdk_41_method_11_code (3 : Nat) (Option.some Jvm.ClassFile.FieldType.int), Jvm.Cond.code ({ cls := "java/lang/String", name := "<init>", desc := "([C)V" } : Jvm.MethodName) jdk_42_method_3_code (2 : Nat) (Option.none : Option Jvm.ClassFile.FieldType), Jvm.Cond.code ({ cls := "java/lang/String", name := "<init>", desc := "([CIILjava/lang/Void;)V" } : Jvm.MethodName) jdk_42_method_149_code (6 : Nat) (Option.none : Option Jvm.ClassFile.FieldType), Jvm.Cond.code ({ cls := "java/lang/Object", name := "<init>", desc := "()V" } : Jvm.MethodName) object_method_1_code (1 : Nat) (Option.none : Option Jvm.ClassFile.FieldType), Jvm.Cond.code ({ cls := "java/lang/StringUTF16", name := "compress", desc := "([CII)[B" } : Jvm.MethodName) jdk_52_method_16_code (6 : Nat) (Option.some (Jvm.ClassFile.FieldType.array Jvm.ClassFile.FieldType.byte)), Jvm.Cond.code ({ cls := "java/lang/StringUTF16", name := "compress", desc := "([CI[BII)I" } : Jvm.MethodName) jdk_52_method_21_code (7 : Nat) (Option.some Jvm.ClassFile.FieldType.int), Jvm.Cond.code ({ cls := "java/lang/StringUTF16", name := "coderFromArrayLen", desc := "([BI)B" } : Jvm.MethodName) jdk_52_method_15_code (2 : Nat) (Option.some Jvm.ClassFile.FieldType.byte), Jvm.Cond.code ({ cls := "com/example/llave/llave/policy/Objective", name := "of", desc := "(Ljava/lang/String;)Ljava/util/Optional;" } : Jvm.MethodName) prog_14_method_4_code (6 : Nat) (Option.some (Jvm.ClassFile.FieldType.object "java/util/Optional")), Jvm.Cond.code ({ cls := "java/util/Optional", name := "empty", desc := "()Ljava/util/Optional;" } : Jvm.MethodName) jdk_32_method_1_code (1 : Nat) (Option.some (Jvm.ClassFile.FieldType.object "java/util/Optional")), Jvm.Cond.code ({ cls := "com/example/llave/llave/policy/Objective", name := "values", desc := "()[Lcom/example/llave/llave/policy/Objective;" } : Jvm.MethodName) prog_14_method_1_code (0 : Nat) (Option.some (Jvm.ClassFile.FieldType.array (Jvm.ClassFile.FieldType.object "com/example/llave/llave/policy/Objective"))), Jvm.Cond.code ({ cls := "java/lang/String", name := "equals", desc := "(Ljava/lang/Object;)Z" } : Jvm.MethodName) jdk_42_method_66_code (3 : Nat) (Option.some Jvm.ClassFile.FieldType.boolean), Jvm.Cond.code ({ cls := "java/lang/StringLatin1", name := "equals", desc := "([B[B)Z" } : Jvm.MethodName) jdk_43_method_13_code (3 : Nat) (Option.some Jvm.ClassFile.FieldType.boolean), Jvm.Cond.code ({ cls := "java/util/Optional", name := "orElse", desc := "(Ljava/lang/Object;)Ljava/lang/Object;" } : Jvm.MethodName) jdk_32_method_15_code (2 : Nat) (Option.some (Jvm.ClassFile.FieldType.object "java/lang/Object")), Jvm.Cond.code ({ cls := "com/example/llave/llave/policy/ObjectiveOfPinLaw", name := "mutate", desc := "(Ljava/lang/String;IIC)Ljava/lang/String;" } : Jvm.MethodName) method_4_code (5 : Nat) (Option.some (Jvm.ClassFile.FieldType.object "java/lang/String")), Jvm.Cond.code ({ cls := "java/util/Optional", name := "of", desc := "(Ljava/lang/Object;)Ljava/util/Optional;" } : Jvm.MethodName) jdk_32_method_3_code (1 : Nat) (Option.some (Jvm.ClassFile.FieldType.object "java/util/Optional")), Jvm.Cond.code ({ cls := "java/util/Objects", name := "requireNonNull", desc := "(Ljava/lang/Object;)Ljava/lang/Object;" } : Jvm.MethodName) jdk_31_method_10_code (1 : Nat) (Option.some (Jvm.ClassFile.FieldType.object "java/lang/Object")), Jvm.Cond.code ({ cls := "java/util/Optional", name := "<init>", desc := "(Ljava/lang/Object;)V" } : Jvm.MethodName) jdk_32_method_2_code (2 : Nat) (Option.none : Option Jvm.ClassFile.FieldType)]
set_option maxRecDepth 65536 in
theorem codes_eq : words1.filter isCode = codes1 := rfl
theorem w_codes : ∀ c ∈ words1.filter isCode, c.before args0 about1 = true := by
  rw [codes_eq]
  intro c hc
  simp only [codes1, List.mem_cons, List.not_mem_nil, or_false] at hc
  rcases hc with rfl | rfl | rfl | rfl | rfl | rfl | rfl | rfl | rfl | rfl | rfl | rfl | rfl | rfl | rfl | rfl | rfl | rfl | rfl | rfl | rfl | rfl | rfl | rfl | rfl | rfl
  · exact w_c0
  · exact w_c1
  · exact w_c2
  · exact w_c3
  · exact w_c4
  · exact w_c5
  · exact w_c6
  · exact w_c7
  · exact w_c8
  · exact w_c9
  · exact w_c10
  · exact w_c11
  · exact w_c12
  · exact w_c13
  · exact w_c14
  · exact w_c15
  · exact w_c16
  · exact w_c17
  · exact w_c18
  · exact w_c19
  · exact w_c20
  · exact w_c21
  · exact w_c22
  · exact w_c23
  · exact w_c24
  · exact w_c25
set_option maxRecDepth 65536 in
theorem w_t1 : (words1.take 24).all (fun c => isCode c || c.before args0 about1) = true := by decide +kernel
set_option maxRecDepth 65536 in
theorem w_t2 : ((words1.drop 24).take 24).all (fun c => isCode c || c.before args0 about1) = true := by decide +kernel
set_option maxRecDepth 65536 in
theorem w_t3 : (((words1.drop 24).drop 24).take 24).all (fun c => isCode c || c.before args0 about1) = true := by decide +kernel
set_option maxRecDepth 65536 in
theorem w_t4 : ((((words1.drop 24).drop 24).drop 24).take 24).all (fun c => isCode c || c.before args0 about1) = true := by decide +kernel
set_option maxRecDepth 65536 in
theorem w_t5 : (((((words1.drop 24).drop 24).drop 24).drop 24).take 24).all (fun c => isCode c || c.before args0 about1) = true := by decide +kernel
set_option maxRecDepth 65536 in
theorem w_t6 : (((((words1.drop 24).drop 24).drop 24).drop 24).drop 24).all (fun c => isCode c || c.before args0 about1) = true := by decide +kernel
theorem w_tables : (allAtoms (Jvm.Cond.code x code maxLocals ret :: tables_1)).before args0 about1 = true := by
  rw [allAtoms_all]
  show words1.all (fun c => c.before args0 about1) = true
  refine all_split ?_ w_codes
  rw [← List.take_append_drop 24 words1, List.all_append, w_t1, ← List.take_append_drop 24 (words1.drop 24), List.all_append, w_t2, ← List.take_append_drop 24 ((words1.drop 24).drop 24), List.all_append, w_t3, ← List.take_append_drop 24 (((words1.drop 24).drop 24).drop 24), List.all_append, w_t4, ← List.take_append_drop 24 ((((words1.drop 24).drop 24).drop 24).drop 24), List.all_append, w_t5, w_t6]
  rfl
set_option maxRecDepth 65536 in
theorem w_rest : rest_1_c.before args0 about1 = true := by decide +kernel
set_option maxRecDepth 65536 in
theorem w_case : (Jvm.Cond.and given_1 narrow_1).before args0 about1 = true := by decide +kernel
set_option maxRecDepth 65536 in
theorem w_consts : constsHeld consts_1 about1 := Jvm.Lit.constsHeldB_iff.mp (by decide +kernel)
theorem w_applies : (headSpec (Jvm.Cond.code x code maxLocals ret :: tables_1) room_1).applies x e0.platform about1 = true :=
  (Spec.applies_iff w_frames).mpr ⟨w_running, w_runnable, w_alone, w_named, w_hears, w_ripe, w_room, w_tables⟩
theorem atStart : AtStart classFile x code maxLocals ret World_1 tables_1 room_1 Calls_1 rest_1 Pre_1 launch0 p0 e0 about1 theMethod args0 below0 :=
  ⟨lists_1, trivial, launch0.admits_env _ _ _, launch0.least_env, fairChoices_fair.cas, fairChoices_fair.clock, w_frames, w_args, w_heap, w_applies, ⟨w_consts, trivial⟩, w_rest, w_case⟩
end start1
theorem witness_1 : WitnessClaimed_1 := ⟨start1.p0, start1.e0, start1.about1, start1.theMethod, start1.args0, start1.below0, start1.atStart⟩
end Jvm.Pilot.@@N@@
