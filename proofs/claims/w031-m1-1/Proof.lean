import JvmDerived
import JvmDerived.Pilot.@@N@@Statement
import JvmDerived.Pilot.@@N@@Code
set_option linter.unusedVariables false
set_option linter.unusedSimpArgs false
namespace Jvm.RoadKit
open Sem ClassFile Op Lib Jvm.Stand Jvm.Free Jvm.LawKit
section New
variable {p : Program} {l : Launch} {e : Env} {R : Room} {s : State} {m : MethodId} {args : Array Value} {below : List Frame} {meth : Method} {c : Code} {T : State} {locs : List Loc} {cells slots : Nat}
theorem retI (X : Stand p l e R s m args below meth c T locs cells slots) (hx : p.tables.exec = Jvm.exec) {pc : Nat} {Ls : Array Slot} {z : Int32} {rest : List Value} (hret : meth.sig.returnType = some .int) (hd : decode c.code pc = .ok (.ireturn, 1)) {fs : List Frame}
    (hl : ∀ (f : JFrame) (acts : List Action), f.method = m → f.locked = none → f.entered = [] → (doReturn e (T.setTop f) acts (some (.int z))).1 = T.setFrames fs) : Steps p.tables e below (T.setTop (mkF m pc Ls (.int z :: rest))) (T.setFrames fs) := by
  have hm' : T.vm.method? m = some meth := X.method'
  have hn : narrow .int (.int z) = .int z := rfl
  show Steps p.tables e below (T.setTop { method := m, pc := pc, locals := Ls, stack := _ :: rest, locked := none }) _
  jvm_step X.here [X.here.top, hx, hd, hm', hret, hn]
  first | (intro acts; rw [hl _ acts rfl rfl rfl]) | rw [hl _ _ rfl rfl rfl]
  exact Steps.refl _
end New
end Jvm.RoadKit
namespace Jvm.Pilot.@@N@@
open Jvm Jvm.ClassFile Sem Op Lib Jvm.Free Jvm.Stand Jvm.LawKit Jvm.RoadKit Bundle Jvm.Pilot.@@N@@.Jvm.D
/-! ## Go: a walk as a proposition, read backwards -/
def Cx (p : Program) (s : State) (m : MethodId) (meth : Method) (c : Code) (Z : State) (own nm : String) (code : ByteArray) (ml : Nat) (ret : Option FieldType) : Prop :=
  p.tables.exec = Jvm.exec ∧ c.code = code ∧ c.maxLocals = ml ∧ s.vm.findClass own = some m.cls ∧ Z.Warmed39 s.vm ∧ meth.name = nm ∧ meth.sig.returnType = ret ∧ meth.locks = false
def Go (p : Program) (l : Launch) (e : Env) (R : Room) (s : State) (m : MethodId) (args : Array Value) (below : List Frame) (meth : Method) (c : Code) (Ph : State → Option Value → Prop) (n0 : Nat) (h : Heap) (k n : Nat) (pc : Nat) (Ls : Array Slot) (st : List Value) : Prop :=
  ∀ T locs, Stand p l e R s m args below meth c T locs k n → Fr n0 locs → T.heap = h → ∃ s₂ v, Steps p.tables e below (T.setTop (mkF m pc Ls st)) s₂ ∧ Ph s₂ v
section GoRules
variable {p : Program} {l : Launch} {e : Env} {R : Room} {s : State} {m : MethodId} {args : Array Value} {below : List Frame} {meth : Method} {c : Code} {Ph : State → Option Value → Prop} {n0 : Nat} {h : Heap} {k n : Nat} {pc q : Nat} {Ls : Array Slot} {st rest : List Value} {Z : State} {a0 : Array Value} {own nm : String} {code : ByteArray} {ml : Nat} {ret : Option FieldType}
theorem Go.pl {pc' : Nat} {Ls' : Array Slot} {st' : List Value} (H : ∀ (T target : State), At T m c below → Steps p.tables e below (T.setTop (mkF m pc' Ls' st')) target → Steps p.tables e below (T.setTop (mkF m pc Ls st)) target) (K : Go p l e R s m args below meth c Ph n0 h k n pc' Ls' st') : Go p l e R s m args below meth c Ph n0 h k n pc Ls st :=
  fun T locs X N eT => by obtain ⟨s₂, v, S, r⟩ := K T locs X N eT; exact ⟨s₂, v, H T s₂ X.here S, r⟩
theorem Go.more {k' n' : Nat} (hk : k ≤ k') (hn : n ≤ n') (K : Go p l e R s m args below meth c Ph n0 h k' n' pc Ls st) : Go p l e R s m args below meth c Ph n0 h k n pc Ls st := fun T locs X N eT => K T locs (X.loosen hk hn) N eT
theorem Go.low {n1 : Nat} (hn : n0 ≤ n1) (K : Go p l e R s m args below meth c Ph n0 h k n pc Ls st) : Go p l e R s m args below meth c Ph n1 h k n pc Ls st := fun T locs X N eT => K T locs X (fun y hy => Nat.le_trans hn (N y hy)) eT
theorem Go.join {pc' : Nat} {Ls' : Array Slot} {st' : List Value} (J : Go p l e R s m args below meth c Ph n0 h k n pc' Ls' st') (K : Go p l e R s m args below meth c Ph n0 h k n pc' Ls' st' → Go p l e R s m args below meth c Ph n0 h k n pc Ls st) : Go p l e R s m args below meth c Ph n0 h k n pc Ls st := K J
theorem Go.joinR {α : Sort _} {pc' : Nat} (P' : α → Prop) (Ls' : α → Array Slot) (st' : α → List Value) (J : ∀ r, P' r → Go p l e R s m args below meth c Ph n0 h k n pc' (Ls' r) (st' r)) (K : (∀ r, P' r → Go p l e R s m args below meth c Ph n0 h k n pc' (Ls' r) (st' r)) → Go p l e R s m args below meth c Ph n0 h k n pc Ls st) : Go p l e R s m args below meth c Ph n0 h k n pc Ls st := K J
theorem Go.cast {pc' : Nat} {Ls' : Array Slot} {st' : List Value} (e1 : pc' = pc) (e2 : Ls' = Ls) (e3 : st' = st) (K : Go p l e R s m args below meth c Ph n0 h k n pc' Ls' st') : Go p l e R s m args below meth c Ph n0 h k n pc Ls st := by subst e1 e2 e3; exact K
theorem g_iloadN (C : Cx p s m meth c Z own nm code ml ret) {i : Fin 4} {v : Int32} (d : decode code pc = .ok (.iload_n i, 1)) (hl : Ls[i.val]? = some (.val (.int v))) (hq : pc + 1 = q) (K : Go p l e R s m args below meth c Ph n0 h k n q Ls (.int v :: st)) : Go p l e R s m args below meth c Ph n0 h k n pc Ls (st) :=
  Go.pl (fun T t A S => XS.iloadN A C.1 rfl (hb C.2.1 d) hl (by subst hq; exact S)) K
theorem g_iload (C : Cx p s m meth c Z own nm code ml ret) {i : Nat} {v : Int32} (d : decode code pc = .ok (.iload i, 2)) (hl : Ls[i]? = some (.val (.int v))) (hq : pc + 2 = q) (K : Go p l e R s m args below meth c Ph n0 h k n q Ls (.int v :: st)) : Go p l e R s m args below meth c Ph n0 h k n pc Ls (st) :=
  Go.pl (fun T t A S => XS.iload A C.1 rfl (hb C.2.1 d) hl (by subst hq; exact S)) K
theorem g_istoreN (C : Cx p s m meth c Z own nm code ml ret) {i : Fin 4} {v : Int32} {L' : Array Slot} (d : decode code pc = .ok (.istore_n i, 1))  (hl : storeLocals Ls i.val (.int v) = some L') (hq : pc + 1 = q) (K : Go p l e R s m args below meth c Ph n0 h k n q L' (st)) : Go p l e R s m args below meth c Ph n0 h k n pc Ls (.int v :: st) :=
  Go.pl (fun T t A S => XS.istoreN A C.1 rfl (hb C.2.1 d) rfl hl (by subst hq; exact S)) K
theorem g_istore (C : Cx p s m meth c Z own nm code ml ret) {i : Nat} {v : Int32} {L' : Array Slot} (d : decode code pc = .ok (.istore i, 2))  (hl : storeLocals Ls i (.int v) = some L') (hq : pc + 2 = q) (K : Go p l e R s m args below meth c Ph n0 h k n q L' (st)) : Go p l e R s m args below meth c Ph n0 h k n pc Ls (.int v :: st) :=
  Go.pl (fun T t A S => XS.istore A C.1 rfl (hb C.2.1 d) rfl hl (by subst hq; exact S)) K
theorem g_lloadN (C : Cx p s m meth c Z own nm code ml ret) {i : Fin 4} {v : Int64} (d : decode code pc = .ok (.lload_n i, 1)) (hl : Ls[i.val]? = some (.val (.long v))) (hq : pc + 1 = q) (K : Go p l e R s m args below meth c Ph n0 h k n q Ls (.long v :: st)) : Go p l e R s m args below meth c Ph n0 h k n pc Ls (st) :=
  Go.pl (fun T t A S => XT.lloadN A C.1 rfl (hb C.2.1 d) hl (by subst hq; exact S)) K
theorem g_lload (C : Cx p s m meth c Z own nm code ml ret) {i : Nat} {v : Int64} (d : decode code pc = .ok (.lload i, 2)) (hl : Ls[i]? = some (.val (.long v))) (hq : pc + 2 = q) (K : Go p l e R s m args below meth c Ph n0 h k n q Ls (.long v :: st)) : Go p l e R s m args below meth c Ph n0 h k n pc Ls (st) :=
  Go.pl (fun T t A S => XT.lload A C.1 rfl (hb C.2.1 d) hl (by subst hq; exact S)) K
theorem g_lstoreN (C : Cx p s m meth c Z own nm code ml ret) {i : Fin 4} {v : Int64} {L' : Array Slot} (d : decode code pc = .ok (.lstore_n i, 1))  (hl : storeLocals Ls i.val (.long v) = some L') (hq : pc + 1 = q) (K : Go p l e R s m args below meth c Ph n0 h k n q L' (st)) : Go p l e R s m args below meth c Ph n0 h k n pc Ls (.long v :: st) :=
  Go.pl (fun T t A S => XT.lstoreN A C.1 rfl (hb C.2.1 d) rfl hl (by subst hq; exact S)) K
theorem g_lstore (C : Cx p s m meth c Z own nm code ml ret) {i : Nat} {v : Int64} {L' : Array Slot} (d : decode code pc = .ok (.lstore i, 2))  (hl : storeLocals Ls i (.long v) = some L') (hq : pc + 2 = q) (K : Go p l e R s m args below meth c Ph n0 h k n q L' (st)) : Go p l e R s m args below meth c Ph n0 h k n pc Ls (.long v :: st) :=
  Go.pl (fun T t A S => XT.lstore A C.1 rfl (hb C.2.1 d) rfl hl (by subst hq; exact S)) K
theorem g_aloadN (C : Cx p s m meth c Z own nm code ml ret) {i : Fin 4} {v : Value} (d : decode code pc = .ok (.aload_n i, 1)) (hl : Ls[i.val]? = some (.val v)) (hv : v.isRef = true) (hq : pc + 1 = q) (K : Go p l e R s m args below meth c Ph n0 h k n q Ls (v :: st)) : Go p l e R s m args below meth c Ph n0 h k n pc Ls (st) :=
  Go.pl (fun T t A S => XS.aloadN A C.1 rfl (hb C.2.1 d) hl hv (by subst hq; exact S)) K
theorem g_aload (C : Cx p s m meth c Z own nm code ml ret) {i : Nat} {v : Value} (d : decode code pc = .ok (.aload i, 2)) (hl : Ls[i]? = some (.val v)) (hv : v.isRef = true) (hq : pc + 2 = q) (K : Go p l e R s m args below meth c Ph n0 h k n q Ls (v :: st)) : Go p l e R s m args below meth c Ph n0 h k n pc Ls (st) :=
  Go.pl (fun T t A S => XS.aload A C.1 rfl (hb C.2.1 d) hl hv (by subst hq; exact S)) K
theorem g_astoreN (C : Cx p s m meth c Z own nm code ml ret) {i : Fin 4} {v : Value} {L' : Array Slot} (d : decode code pc = .ok (.astore_n i, 1))  (hv : v.isRef = true) (hl : storeLocals Ls i.val (v) = some L') (hq : pc + 1 = q) (K : Go p l e R s m args below meth c Ph n0 h k n q L' (st)) : Go p l e R s m args below meth c Ph n0 h k n pc Ls (v :: st) :=
  Go.pl (fun T t A S => XS.astoreN A C.1 rfl (hb C.2.1 d) rfl hv hl (by subst hq; exact S)) K
theorem g_astore (C : Cx p s m meth c Z own nm code ml ret) {i : Nat} {v : Value} {L' : Array Slot} (d : decode code pc = .ok (.astore i, 2))  (hv : v.isRef = true) (hl : storeLocals Ls i (v) = some L') (hq : pc + 2 = q) (K : Go p l e R s m args below meth c Ph n0 h k n q L' (st)) : Go p l e R s m args below meth c Ph n0 h k n pc Ls (v :: st) :=
  Go.pl (fun T t A S => XS.astore A C.1 rfl (hb C.2.1 d) rfl hv hl (by subst hq; exact S)) K
theorem g_iinc (C : Cx p s m meth c Z own nm code ml ret) {i : Nat} {cst : Int} {v : Int32} {L' : Array Slot} (d : decode code pc = .ok (.iinc i cst, 3)) (hl : Ls[i]? = some (.val (.int v))) (hl' : storeLocals Ls i (.int (v + Int32.ofInt cst)) = some L') (hq : pc + 3 = q) (K : Go p l e R s m args below meth c Ph n0 h k n q L' (st)) : Go p l e R s m args below meth c Ph n0 h k n pc Ls (st) :=
  Go.pl (fun T t A S => XS.iinc A C.1 rfl (hb C.2.1 d) hl hl' (by subst hq; exact S)) K
theorem g_iconst (C : Cx p s m meth c Z own nm code ml ret) {i : Int} {z : Int32} (d : decode code pc = .ok (.iconst i, 1)) (hz : Int32.ofInt i = z) (hq : pc + 1 = q) (K : Go p l e R s m args below meth c Ph n0 h k n q Ls (.int z :: st)) : Go p l e R s m args below meth c Ph n0 h k n pc Ls st :=
  Go.pl (fun T t A S => XS.iconst A C.1 rfl (hb C.2.1 d) (by subst hq hz; exact S)) K
theorem g_bipush (C : Cx p s m meth c Z own nm code ml ret) {i : Int} {z : Int32} (d : decode code pc = .ok (.bipush i, 2)) (hz : (Int8.ofInt i).toInt32 = z) (hq : pc + 2 = q) (K : Go p l e R s m args below meth c Ph n0 h k n q Ls (.int z :: st)) : Go p l e R s m args below meth c Ph n0 h k n pc Ls st :=
  Go.pl (fun T t A S => XS.bipush A C.1 rfl (hb C.2.1 d) (by subst hq hz; exact S)) K
theorem g_sipush (C : Cx p s m meth c Z own nm code ml ret) {i : Int} {z : Int32} (d : decode code pc = .ok (.sipush i, 3)) (hz : (Int16.ofInt i).toInt32 = z) (hq : pc + 3 = q) (K : Go p l e R s m args below meth c Ph n0 h k n q Ls (.int z :: st)) : Go p l e R s m args below meth c Ph n0 h k n pc Ls st :=
  Go.pl (fun T t A S => XS.sipush A C.1 rfl (hb C.2.1 d) (by subst hq hz; exact S)) K
theorem g_lconst (C : Cx p s m meth c Z own nm code ml ret) {i : Fin 2} {z : Int64} (d : decode code pc = .ok (.lconst i, 1)) (hz : Int64.ofNat i = z) (hq : pc + 1 = q) (K : Go p l e R s m args below meth c Ph n0 h k n q Ls (.long z :: st)) : Go p l e R s m args below meth c Ph n0 h k n pc Ls st :=
  Go.pl (fun T t A S => XT.lconst A C.1 rfl (hb C.2.1 d) (by subst hq hz; exact S)) K
theorem g_aconst_null (C : Cx p s m meth c Z own nm code ml ret)  (d : decode code pc = .ok (.aconst_null, 1))  (hq : pc + 1 = q) (K : Go p l e R s m args below meth c Ph n0 h k n q Ls (.null :: st)) : Go p l e R s m args below meth c Ph n0 h k n pc Ls (st) :=
  Go.pl (fun T t A S => XS.aconstNull A C.1 rfl (hb C.2.1 d)  (by subst hq; exact S)) K
theorem g_dup (C : Cx p s m meth c Z own nm code ml ret) {x : Value} (d : decode code pc = .ok (.dup, 1)) (hc : x.category = 1) (hq : pc + 1 = q) (K : Go p l e R s m args below meth c Ph n0 h k n q Ls (x :: x :: st)) : Go p l e R s m args below meth c Ph n0 h k n pc Ls (x :: st) :=
  Go.pl (fun T t A S => XS.dup A C.1 rfl (hb C.2.1 d) rfl hc (by subst hq; exact S)) K
theorem g_pop (C : Cx p s m meth c Z own nm code ml ret) {x : Value} (d : decode code pc = .ok (.pop, 1)) (hc : x.category = 1) (hq : pc + 1 = q) (K : Go p l e R s m args below meth c Ph n0 h k n q Ls (st)) : Go p l e R s m args below meth c Ph n0 h k n pc Ls (x :: st) :=
  Go.pl (fun T t A S => XT.pop A C.1 rfl (hb C.2.1 d) rfl hc (by subst hq; exact S)) K
theorem g_dup_x1 (C : Cx p s m meth c Z own nm code ml ret) {x y : Value} (d : decode code pc = .ok (.dup_x1, 1)) (hc : x.category = 1) (hc' : y.category = 1) (hq : pc + 1 = q) (K : Go p l e R s m args below meth c Ph n0 h k n q Ls (x :: y :: x :: st)) : Go p l e R s m args below meth c Ph n0 h k n pc Ls (x :: y :: st) :=
  Go.pl (fun T t A S => XT.dupX1 A C.1 rfl (hb C.2.1 d) rfl hc hc' (by subst hq; exact S)) K
theorem g_dup2 (C : Cx p s m meth c Z own nm code ml ret) {x y : Value} (d : decode code pc = .ok (.dup2, 1)) (hc : x.category = 1) (hc' : y.category = 1) (hq : pc + 1 = q) (K : Go p l e R s m args below meth c Ph n0 h k n q Ls (x :: y :: x :: y :: st)) : Go p l e R s m args below meth c Ph n0 h k n pc Ls (x :: y :: st) :=
  Go.pl (fun T t A S => XT.dup2 A C.1 rfl (hb C.2.1 d) rfl hc hc' (by subst hq; exact S)) K
theorem g_dup2L (C : Cx p s m meth c Z own nm code ml ret) {x : Int64} (d : decode code pc = .ok (.dup2, 1))  (hq : pc + 1 = q) (K : Go p l e R s m args below meth c Ph n0 h k n q Ls (.long x :: .long x :: st)) : Go p l e R s m args below meth c Ph n0 h k n pc Ls (.long x :: st) :=
  Go.pl (fun T t A S => XT.dup2L A C.1 rfl (hb C.2.1 d) rfl (by subst hq; exact S)) K
theorem g_iadd (C : Cx p s m meth c Z own nm code ml ret) {x y : Int32} (d : decode code pc = .ok (.iadd, 1))  (hq : pc + 1 = q) (K : Go p l e R s m args below meth c Ph n0 h k n q Ls (.int (x + y) :: st)) : Go p l e R s m args below meth c Ph n0 h k n pc Ls (.int y :: .int x :: st) :=
  Go.pl (fun T t A S => XS.iadd A C.1 rfl (hb C.2.1 d) rfl (by subst hq; exact S)) K
theorem g_isub (C : Cx p s m meth c Z own nm code ml ret) {x y : Int32} (d : decode code pc = .ok (.isub, 1))  (hq : pc + 1 = q) (K : Go p l e R s m args below meth c Ph n0 h k n q Ls (.int (x - y) :: st)) : Go p l e R s m args below meth c Ph n0 h k n pc Ls (.int y :: .int x :: st) :=
  Go.pl (fun T t A S => XS.isub A C.1 rfl (hb C.2.1 d) rfl (by subst hq; exact S)) K
theorem g_imul (C : Cx p s m meth c Z own nm code ml ret) {x y : Int32} (d : decode code pc = .ok (.imul, 1))  (hq : pc + 1 = q) (K : Go p l e R s m args below meth c Ph n0 h k n q Ls (.int (x * y) :: st)) : Go p l e R s m args below meth c Ph n0 h k n pc Ls (.int y :: .int x :: st) :=
  Go.pl (fun T t A S => XS.imul A C.1 rfl (hb C.2.1 d) rfl (by subst hq; exact S)) K
theorem g_iand (C : Cx p s m meth c Z own nm code ml ret) {x y : Int32} (d : decode code pc = .ok (.iand, 1))  (hq : pc + 1 = q) (K : Go p l e R s m args below meth c Ph n0 h k n q Ls (.int (x &&& y) :: st)) : Go p l e R s m args below meth c Ph n0 h k n pc Ls (.int y :: .int x :: st) :=
  Go.pl (fun T t A S => XS.iand A C.1 rfl (hb C.2.1 d) rfl (by subst hq; exact S)) K
theorem g_ior (C : Cx p s m meth c Z own nm code ml ret) {x y : Int32} (d : decode code pc = .ok (.ior, 1))  (hq : pc + 1 = q) (K : Go p l e R s m args below meth c Ph n0 h k n q Ls (.int (x ||| y) :: st)) : Go p l e R s m args below meth c Ph n0 h k n pc Ls (.int y :: .int x :: st) :=
  Go.pl (fun T t A S => XT.ior A C.1 rfl (hb C.2.1 d) rfl (by subst hq; exact S)) K
theorem g_ixor (C : Cx p s m meth c Z own nm code ml ret) {x y : Int32} (d : decode code pc = .ok (.ixor, 1))  (hq : pc + 1 = q) (K : Go p l e R s m args below meth c Ph n0 h k n q Ls (.int (x ^^^ y) :: st)) : Go p l e R s m args below meth c Ph n0 h k n pc Ls (.int y :: .int x :: st) :=
  Go.pl (fun T t A S => XT.ixor A C.1 rfl (hb C.2.1 d) rfl (by subst hq; exact S)) K
theorem g_ishl (C : Cx p s m meth c Z own nm code ml ret) {x y : Int32} (d : decode code pc = .ok (.ishl, 1))  (hq : pc + 1 = q) (K : Go p l e R s m args below meth c Ph n0 h k n q Ls (.int (x <<< (y &&& 31)) :: st)) : Go p l e R s m args below meth c Ph n0 h k n pc Ls (.int y :: .int x :: st) :=
  Go.pl (fun T t A S => XT.ishl A C.1 rfl (hb C.2.1 d) rfl (by subst hq; exact S)) K
theorem g_ishr (C : Cx p s m meth c Z own nm code ml ret) {x y : Int32} (d : decode code pc = .ok (.ishr, 1))  (hq : pc + 1 = q) (K : Go p l e R s m args below meth c Ph n0 h k n q Ls (.int (x >>> (y &&& 31)) :: st)) : Go p l e R s m args below meth c Ph n0 h k n pc Ls (.int y :: .int x :: st) :=
  Go.pl (fun T t A S => XT.ishr A C.1 rfl (hb C.2.1 d) rfl (by subst hq; exact S)) K
theorem g_iushr (C : Cx p s m meth c Z own nm code ml ret) {x y : Int32} (d : decode code pc = .ok (.iushr, 1))  (hq : pc + 1 = q) (K : Go p l e R s m args below meth c Ph n0 h k n q Ls (.int (XT.ushr x y) :: st)) : Go p l e R s m args below meth c Ph n0 h k n pc Ls (.int y :: .int x :: st) :=
  Go.pl (fun T t A S => XT.iushr A C.1 rfl (hb C.2.1 d) rfl (by subst hq; exact S)) K
theorem g_idiv (C : Cx p s m meth c Z own nm code ml ret) {x y : Int32} (d : decode code pc = .ok (.idiv, 1)) (hy : y ≠ 0) (hq : pc + 1 = q) (K : Go p l e R s m args below meth c Ph n0 h k n q Ls (.int (x / y) :: st)) : Go p l e R s m args below meth c Ph n0 h k n pc Ls (.int y :: .int x :: st) :=
  Go.pl (fun T t A S => XS.idiv A C.1 rfl (hb C.2.1 d) rfl hy (by subst hq; exact S)) K
theorem g_irem (C : Cx p s m meth c Z own nm code ml ret) {x y : Int32} (d : decode code pc = .ok (.irem, 1)) (hy : y ≠ 0) (hq : pc + 1 = q) (K : Go p l e R s m args below meth c Ph n0 h k n q Ls (.int (x % y) :: st)) : Go p l e R s m args below meth c Ph n0 h k n pc Ls (.int y :: .int x :: st) :=
  Go.pl (fun T t A S => XS.irem A C.1 rfl (hb C.2.1 d) rfl hy (by subst hq; rw [irem_eq_mod x y]; exact S)) K
theorem g_ineg (C : Cx p s m meth c Z own nm code ml ret) {x : Int32} (d : decode code pc = .ok (.ineg, 1))  (hq : pc + 1 = q) (K : Go p l e R s m args below meth c Ph n0 h k n q Ls (.int (-x) :: st)) : Go p l e R s m args below meth c Ph n0 h k n pc Ls (.int x :: st) :=
  Go.pl (fun T t A S => XS.ineg A C.1 rfl (hb C.2.1 d) rfl (by subst hq; exact S)) K
theorem g_ladd (C : Cx p s m meth c Z own nm code ml ret) {x y : Int64} (d : decode code pc = .ok (.ladd, 1))  (hq : pc + 1 = q) (K : Go p l e R s m args below meth c Ph n0 h k n q Ls (.long (x + y) :: st)) : Go p l e R s m args below meth c Ph n0 h k n pc Ls (.long y :: .long x :: st) :=
  Go.pl (fun T t A S => XT.ladd A C.1 rfl (hb C.2.1 d) rfl (by subst hq; exact S)) K
theorem g_lsub (C : Cx p s m meth c Z own nm code ml ret) {x y : Int64} (d : decode code pc = .ok (.lsub, 1))  (hq : pc + 1 = q) (K : Go p l e R s m args below meth c Ph n0 h k n q Ls (.long (x - y) :: st)) : Go p l e R s m args below meth c Ph n0 h k n pc Ls (.long y :: .long x :: st) :=
  Go.pl (fun T t A S => XT.lsub A C.1 rfl (hb C.2.1 d) rfl (by subst hq; exact S)) K
theorem g_lmul (C : Cx p s m meth c Z own nm code ml ret) {x y : Int64} (d : decode code pc = .ok (.lmul, 1))  (hq : pc + 1 = q) (K : Go p l e R s m args below meth c Ph n0 h k n q Ls (.long (x * y) :: st)) : Go p l e R s m args below meth c Ph n0 h k n pc Ls (.long y :: .long x :: st) :=
  Go.pl (fun T t A S => XT.lmul A C.1 rfl (hb C.2.1 d) rfl (by subst hq; exact S)) K
theorem g_land (C : Cx p s m meth c Z own nm code ml ret) {x y : Int64} (d : decode code pc = .ok (.land, 1))  (hq : pc + 1 = q) (K : Go p l e R s m args below meth c Ph n0 h k n q Ls (.long (x &&& y) :: st)) : Go p l e R s m args below meth c Ph n0 h k n pc Ls (.long y :: .long x :: st) :=
  Go.pl (fun T t A S => XT.land A C.1 rfl (hb C.2.1 d) rfl (by subst hq; exact S)) K
theorem g_lor (C : Cx p s m meth c Z own nm code ml ret) {x y : Int64} (d : decode code pc = .ok (.lor, 1))  (hq : pc + 1 = q) (K : Go p l e R s m args below meth c Ph n0 h k n q Ls (.long (x ||| y) :: st)) : Go p l e R s m args below meth c Ph n0 h k n pc Ls (.long y :: .long x :: st) :=
  Go.pl (fun T t A S => XT.lor A C.1 rfl (hb C.2.1 d) rfl (by subst hq; exact S)) K
theorem g_lxor (C : Cx p s m meth c Z own nm code ml ret) {x y : Int64} (d : decode code pc = .ok (.lxor, 1))  (hq : pc + 1 = q) (K : Go p l e R s m args below meth c Ph n0 h k n q Ls (.long (x ^^^ y) :: st)) : Go p l e R s m args below meth c Ph n0 h k n pc Ls (.long y :: .long x :: st) :=
  Go.pl (fun T t A S => XT.lxor A C.1 rfl (hb C.2.1 d) rfl (by subst hq; exact S)) K
theorem g_lushr (C : Cx p s m meth c Z own nm code ml ret) {x : Int64} {y : Int32} (d : decode code pc = .ok (.lushr, 1))  (hq : pc + 1 = q) (K : Go p l e R s m args below meth c Ph n0 h k n q Ls (.long (XT.ushrL x y) :: st)) : Go p l e R s m args below meth c Ph n0 h k n pc Ls (.int y :: .long x :: st) :=
  Go.pl (fun T t A S => XT.lushr A C.1 rfl (hb C.2.1 d) rfl (by subst hq; exact S)) K
theorem g_lcmp (C : Cx p s m meth c Z own nm code ml ret) {x y : Int64} (d : decode code pc = .ok (.lcmp, 1))  (hq : pc + 1 = q) (K : Go p l e R s m args below meth c Ph n0 h k n q Ls (.int (XT.cmpL x y) :: st)) : Go p l e R s m args below meth c Ph n0 h k n pc Ls (.long y :: .long x :: st) :=
  Go.pl (fun T t A S => XT.lcmp A C.1 rfl (hb C.2.1 d) rfl (by subst hq; exact S)) K
theorem g_i2l (C : Cx p s m meth c Z own nm code ml ret) {x : Int32} (d : decode code pc = .ok (.i2l, 1))  (hq : pc + 1 = q) (K : Go p l e R s m args below meth c Ph n0 h k n q Ls (.long (x.toInt64) :: st)) : Go p l e R s m args below meth c Ph n0 h k n pc Ls (.int x :: st) :=
  Go.pl (fun T t A S => XT.i2l A C.1 rfl (hb C.2.1 d) rfl (by subst hq; exact S)) K
theorem g_l2i (C : Cx p s m meth c Z own nm code ml ret) {x : Int64} (d : decode code pc = .ok (.l2i, 1))  (hq : pc + 1 = q) (K : Go p l e R s m args below meth c Ph n0 h k n q Ls (.int (x.toInt32) :: st)) : Go p l e R s m args below meth c Ph n0 h k n pc Ls (.long x :: st) :=
  Go.pl (fun T t A S => XT.l2i A C.1 rfl (hb C.2.1 d) rfl (by subst hq; exact S)) K
theorem g_i2b (C : Cx p s m meth c Z own nm code ml ret) {x : Int32} (d : decode code pc = .ok (.i2b, 1))  (hq : pc + 1 = q) (K : Go p l e R s m args below meth c Ph n0 h k n q Ls (.int (x.toInt8.toInt32) :: st)) : Go p l e R s m args below meth c Ph n0 h k n pc Ls (.int x :: st) :=
  Go.pl (fun T t A S => XT.i2b A C.1 rfl (hb C.2.1 d) rfl (by subst hq; exact S)) K
theorem g_i2c (C : Cx p s m meth c Z own nm code ml ret) {x : Int32} (d : decode code pc = .ok (.i2c, 1))  (hq : pc + 1 = q) (K : Go p l e R s m args below meth c Ph n0 h k n q Ls (.int (x.toUInt32.toUInt16.toUInt32.toInt32) :: st)) : Go p l e R s m args below meth c Ph n0 h k n pc Ls (.int x :: st) :=
  Go.pl (fun T t A S => XT.i2c A C.1 rfl (hb C.2.1 d) rfl (by subst hq; exact S)) K
theorem g_i2s (C : Cx p s m meth c Z own nm code ml ret) {x : Int32} (d : decode code pc = .ok (.i2s, 1))  (hq : pc + 1 = q) (K : Go p l e R s m args below meth c Ph n0 h k n q Ls (.int (x.toInt16.toInt32) :: st)) : Go p l e R s m args below meth c Ph n0 h k n pc Ls (.int x :: st) :=
  Go.pl (fun T t A S => XT.i2s A C.1 rfl (hb C.2.1 d) rfl (by subst hq; exact S)) K
theorem g_goto (C : Cx p s m meth c Z own nm code ml ret) {o : Int} (d : decode code pc = .ok (.goto o, 3)) (ho : 0 ≤ (pc : Int) + o) (hq : ((pc : Int) + o).toNat = q) (K : Go p l e R s m args below meth c Ph n0 h k n q Ls st) : Go p l e R s m args below meth c Ph n0 h k n pc Ls st :=
  Go.pl (fun T t A S => XS.goto A C.1 rfl rfl (hb C.2.1 d) ho hq S) K
theorem g_if (C : Cx p s m meth c Z own nm code ml ret) {cd : ClassFile.Cond} {x : Int32} {o : Int} {q' : Nat} (d : decode code pc = .ok (.ifCond cd o, 3)) (ho : 0 ≤ (pc : Int) + o) (hq' : ((pc : Int) + o).toNat = q') (hq : pc + 3 = q)
    (K1 : ifCond.holds cd x = true → Go p l e R s m args below meth c Ph n0 h k n q' Ls st) (K2 : ifCond.holds cd x = false → Go p l e R s m args below meth c Ph n0 h k n q Ls st) : Go p l e R s m args below meth c Ph n0 h k n pc Ls (.int x :: st) := by
  cases hb' : ifCond.holds cd x
  · exact Go.pl (fun T t A S => XS.ifNo A C.1 rfl (hb C.2.1 d) rfl hb' (by subst hq; exact S)) (K2 hb')
  · exact Go.pl (fun T t A S => XS.ifYes A C.1 rfl rfl (hb C.2.1 d) rfl hb' ho hq' S) (K1 hb')
theorem g_icmp (C : Cx p s m meth c Z own nm code ml ret) {cd : ClassFile.Cond} {x y : Int32} {o : Int} {q' : Nat} (d : decode code pc = .ok (.if_icmp cd o, 3)) (ho : 0 ≤ (pc : Int) + o) (hq' : ((pc : Int) + o).toNat = q') (hq : pc + 3 = q)
    (K1 : if_icmp.holds cd x y = true → Go p l e R s m args below meth c Ph n0 h k n q' Ls st) (K2 : if_icmp.holds cd x y = false → Go p l e R s m args below meth c Ph n0 h k n q Ls st) : Go p l e R s m args below meth c Ph n0 h k n pc Ls (.int y :: .int x :: st) := by
  cases hb' : if_icmp.holds cd x y
  · exact Go.pl (fun T t A S => XS.icmpNo A C.1 rfl (hb C.2.1 d) rfl hb' (by subst hq; exact S)) (K2 hb')
  · exact Go.pl (fun T t A S => XS.icmpYes A C.1 rfl rfl (hb C.2.1 d) rfl hb' ho hq' S) (K1 hb')
theorem g_if_eq (C : Cx p s m meth c Z own nm code ml ret) {x : Int32} {o : Int} {q' : Nat} (d : decode code pc = .ok (.ifCond .eq o, 3)) (ho : 0 ≤ (pc : Int) + o) (hq' : ((pc : Int) + o).toNat = q') (hq : pc + 3 = q)
    (K1 : x = 0 → Go p l e R s m args below meth c Ph n0 h k n q' Ls st) (K2 : ¬ x = 0 → Go p l e R s m args below meth c Ph n0 h k n q Ls st) : Go p l e R s m args below meth c Ph n0 h k n pc Ls (.int x :: st) :=
  g_if C d ho hq' hq (fun hh => K1 (by simpa [ifCond.holds, Int32.not_lt, Int32.not_le] using hh)) (fun hh => K2 (by simpa [ifCond.holds, Int32.not_lt, Int32.not_le] using hh))
theorem g_icmp_eq (C : Cx p s m meth c Z own nm code ml ret) {x y : Int32} {o : Int} {q' : Nat} (d : decode code pc = .ok (.if_icmp .eq o, 3)) (ho : 0 ≤ (pc : Int) + o) (hq' : ((pc : Int) + o).toNat = q') (hq : pc + 3 = q)
    (K1 : x = y → Go p l e R s m args below meth c Ph n0 h k n q' Ls st) (K2 : ¬ x = y → Go p l e R s m args below meth c Ph n0 h k n q Ls st) : Go p l e R s m args below meth c Ph n0 h k n pc Ls (.int y :: .int x :: st) :=
  g_icmp C d ho hq' hq (fun hh => K1 (by simpa [if_icmp.holds, Int32.not_lt, Int32.not_le] using hh)) (fun hh => K2 (by simpa [if_icmp.holds, Int32.not_lt, Int32.not_le] using hh))
theorem g_if_ne (C : Cx p s m meth c Z own nm code ml ret) {x : Int32} {o : Int} {q' : Nat} (d : decode code pc = .ok (.ifCond .ne o, 3)) (ho : 0 ≤ (pc : Int) + o) (hq' : ((pc : Int) + o).toNat = q') (hq : pc + 3 = q)
    (K1 : ¬ x = 0 → Go p l e R s m args below meth c Ph n0 h k n q' Ls st) (K2 : x = 0 → Go p l e R s m args below meth c Ph n0 h k n q Ls st) : Go p l e R s m args below meth c Ph n0 h k n pc Ls (.int x :: st) :=
  g_if C d ho hq' hq (fun hh => K1 (by simpa [ifCond.holds, Int32.not_lt, Int32.not_le] using hh)) (fun hh => K2 (by simpa [ifCond.holds, Int32.not_lt, Int32.not_le] using hh))
theorem g_icmp_ne (C : Cx p s m meth c Z own nm code ml ret) {x y : Int32} {o : Int} {q' : Nat} (d : decode code pc = .ok (.if_icmp .ne o, 3)) (ho : 0 ≤ (pc : Int) + o) (hq' : ((pc : Int) + o).toNat = q') (hq : pc + 3 = q)
    (K1 : ¬ x = y → Go p l e R s m args below meth c Ph n0 h k n q' Ls st) (K2 : x = y → Go p l e R s m args below meth c Ph n0 h k n q Ls st) : Go p l e R s m args below meth c Ph n0 h k n pc Ls (.int y :: .int x :: st) :=
  g_icmp C d ho hq' hq (fun hh => K1 (by simpa [if_icmp.holds, Int32.not_lt, Int32.not_le] using hh)) (fun hh => K2 (by simpa [if_icmp.holds, Int32.not_lt, Int32.not_le] using hh))
theorem g_if_lt (C : Cx p s m meth c Z own nm code ml ret) {x : Int32} {o : Int} {q' : Nat} (d : decode code pc = .ok (.ifCond .lt o, 3)) (ho : 0 ≤ (pc : Int) + o) (hq' : ((pc : Int) + o).toNat = q') (hq : pc + 3 = q)
    (K1 : x < 0 → Go p l e R s m args below meth c Ph n0 h k n q' Ls st) (K2 : ¬ x < 0 → Go p l e R s m args below meth c Ph n0 h k n q Ls st) : Go p l e R s m args below meth c Ph n0 h k n pc Ls (.int x :: st) :=
  g_if C d ho hq' hq (fun hh => K1 (by simpa [ifCond.holds, Int32.not_lt, Int32.not_le] using hh)) (fun hh => K2 (by simpa [ifCond.holds, Int32.not_lt, Int32.not_le] using hh))
theorem g_icmp_lt (C : Cx p s m meth c Z own nm code ml ret) {x y : Int32} {o : Int} {q' : Nat} (d : decode code pc = .ok (.if_icmp .lt o, 3)) (ho : 0 ≤ (pc : Int) + o) (hq' : ((pc : Int) + o).toNat = q') (hq : pc + 3 = q)
    (K1 : x < y → Go p l e R s m args below meth c Ph n0 h k n q' Ls st) (K2 : ¬ x < y → Go p l e R s m args below meth c Ph n0 h k n q Ls st) : Go p l e R s m args below meth c Ph n0 h k n pc Ls (.int y :: .int x :: st) :=
  g_icmp C d ho hq' hq (fun hh => K1 (by simpa [if_icmp.holds, Int32.not_lt, Int32.not_le] using hh)) (fun hh => K2 (by simpa [if_icmp.holds, Int32.not_lt, Int32.not_le] using hh))
theorem g_if_ge (C : Cx p s m meth c Z own nm code ml ret) {x : Int32} {o : Int} {q' : Nat} (d : decode code pc = .ok (.ifCond .ge o, 3)) (ho : 0 ≤ (pc : Int) + o) (hq' : ((pc : Int) + o).toNat = q') (hq : pc + 3 = q)
    (K1 : ¬ x < 0 → Go p l e R s m args below meth c Ph n0 h k n q' Ls st) (K2 : x < 0 → Go p l e R s m args below meth c Ph n0 h k n q Ls st) : Go p l e R s m args below meth c Ph n0 h k n pc Ls (.int x :: st) :=
  g_if C d ho hq' hq (fun hh => K1 (by simpa [ifCond.holds, Int32.not_lt, Int32.not_le] using hh)) (fun hh => K2 (by simpa [ifCond.holds, Int32.not_lt, Int32.not_le] using hh))
theorem g_icmp_ge (C : Cx p s m meth c Z own nm code ml ret) {x y : Int32} {o : Int} {q' : Nat} (d : decode code pc = .ok (.if_icmp .ge o, 3)) (ho : 0 ≤ (pc : Int) + o) (hq' : ((pc : Int) + o).toNat = q') (hq : pc + 3 = q)
    (K1 : ¬ x < y → Go p l e R s m args below meth c Ph n0 h k n q' Ls st) (K2 : x < y → Go p l e R s m args below meth c Ph n0 h k n q Ls st) : Go p l e R s m args below meth c Ph n0 h k n pc Ls (.int y :: .int x :: st) :=
  g_icmp C d ho hq' hq (fun hh => K1 (by simpa [if_icmp.holds, Int32.not_lt, Int32.not_le] using hh)) (fun hh => K2 (by simpa [if_icmp.holds, Int32.not_lt, Int32.not_le] using hh))
theorem g_if_gt (C : Cx p s m meth c Z own nm code ml ret) {x : Int32} {o : Int} {q' : Nat} (d : decode code pc = .ok (.ifCond .gt o, 3)) (ho : 0 ≤ (pc : Int) + o) (hq' : ((pc : Int) + o).toNat = q') (hq : pc + 3 = q)
    (K1 : 0 < x → Go p l e R s m args below meth c Ph n0 h k n q' Ls st) (K2 : ¬ 0 < x → Go p l e R s m args below meth c Ph n0 h k n q Ls st) : Go p l e R s m args below meth c Ph n0 h k n pc Ls (.int x :: st) :=
  g_if C d ho hq' hq (fun hh => K1 (by simpa [ifCond.holds, Int32.not_lt, Int32.not_le] using hh)) (fun hh => K2 (by simpa [ifCond.holds, Int32.not_lt, Int32.not_le] using hh))
theorem g_icmp_gt (C : Cx p s m meth c Z own nm code ml ret) {x y : Int32} {o : Int} {q' : Nat} (d : decode code pc = .ok (.if_icmp .gt o, 3)) (ho : 0 ≤ (pc : Int) + o) (hq' : ((pc : Int) + o).toNat = q') (hq : pc + 3 = q)
    (K1 : y < x → Go p l e R s m args below meth c Ph n0 h k n q' Ls st) (K2 : ¬ y < x → Go p l e R s m args below meth c Ph n0 h k n q Ls st) : Go p l e R s m args below meth c Ph n0 h k n pc Ls (.int y :: .int x :: st) :=
  g_icmp C d ho hq' hq (fun hh => K1 (by simpa [if_icmp.holds, Int32.not_lt, Int32.not_le] using hh)) (fun hh => K2 (by simpa [if_icmp.holds, Int32.not_lt, Int32.not_le] using hh))
theorem g_if_le (C : Cx p s m meth c Z own nm code ml ret) {x : Int32} {o : Int} {q' : Nat} (d : decode code pc = .ok (.ifCond .le o, 3)) (ho : 0 ≤ (pc : Int) + o) (hq' : ((pc : Int) + o).toNat = q') (hq : pc + 3 = q)
    (K1 : ¬ 0 < x → Go p l e R s m args below meth c Ph n0 h k n q' Ls st) (K2 : 0 < x → Go p l e R s m args below meth c Ph n0 h k n q Ls st) : Go p l e R s m args below meth c Ph n0 h k n pc Ls (.int x :: st) :=
  g_if C d ho hq' hq (fun hh => K1 (by simpa [ifCond.holds, Int32.not_lt, Int32.not_le] using hh)) (fun hh => K2 (by simpa [ifCond.holds, Int32.not_lt, Int32.not_le] using hh))
theorem g_icmp_le (C : Cx p s m meth c Z own nm code ml ret) {x y : Int32} {o : Int} {q' : Nat} (d : decode code pc = .ok (.if_icmp .le o, 3)) (ho : 0 ≤ (pc : Int) + o) (hq' : ((pc : Int) + o).toNat = q') (hq : pc + 3 = q)
    (K1 : ¬ y < x → Go p l e R s m args below meth c Ph n0 h k n q' Ls st) (K2 : y < x → Go p l e R s m args below meth c Ph n0 h k n q Ls st) : Go p l e R s m args below meth c Ph n0 h k n pc Ls (.int y :: .int x :: st) :=
  g_icmp C d ho hq' hq (fun hh => K1 (by simpa [if_icmp.holds, Int32.not_lt, Int32.not_le] using hh)) (fun hh => K2 (by simpa [if_icmp.holds, Int32.not_lt, Int32.not_le] using hh))
theorem g_ifnullY (C : Cx p s m meth c Z own nm code ml ret) {a : Addr} {o : Int} (d : decode code pc = .ok (.ifnull o, 3)) (ho : 0 ≤ (pc : Int) + o) (hq : ((pc : Int) + o).toNat = q) (K : Go p l e R s m args below meth c Ph n0 h k n q Ls st) : Go p l e R s m args below meth c Ph n0 h k n pc Ls (.null :: st) :=
  Go.pl (fun T t A S => XS.ifnullYes A C.1 rfl rfl (hb C.2.1 d) rfl ho hq S) K
theorem g_ifnullN (C : Cx p s m meth c Z own nm code ml ret) {a : Addr} {o : Int} (d : decode code pc = .ok (.ifnull o, 3)) (hq : pc + 3 = q) (K : Go p l e R s m args below meth c Ph n0 h k n q Ls st) : Go p l e R s m args below meth c Ph n0 h k n pc Ls (.ref a :: st) :=
  Go.pl (fun T t A S => XS.ifnullNo A C.1 rfl (hb C.2.1 d) rfl (by subst hq; exact S)) K
theorem g_ifnonnullY (C : Cx p s m meth c Z own nm code ml ret) {a : Addr} {o : Int} (d : decode code pc = .ok (.ifnonnull o, 3)) (ho : 0 ≤ (pc : Int) + o) (hq : ((pc : Int) + o).toNat = q) (K : Go p l e R s m args below meth c Ph n0 h k n q Ls st) : Go p l e R s m args below meth c Ph n0 h k n pc Ls (.ref a :: st) :=
  Go.pl (fun T t A S => XT.ifnonnullYes A C.1 rfl rfl (hb C.2.1 d) rfl ho hq S) K
theorem g_ifnonnullN (C : Cx p s m meth c Z own nm code ml ret) {a : Addr} {o : Int} (d : decode code pc = .ok (.ifnonnull o, 3)) (hq : pc + 3 = q) (K : Go p l e R s m args below meth c Ph n0 h k n q Ls st) : Go p l e R s m args below meth c Ph n0 h k n pc Ls (.null :: st) :=
  Go.pl (fun T t A S => XT.ifnonnullNo A C.1 rfl (hb C.2.1 d) rfl (by subst hq; exact S)) K
theorem g_acmp_eq (C : Cx p s m meth c Z own nm code ml ret) {x y : Value} {o : Int} {q' : Nat} (d : decode code pc = .ok (.if_acmp .eq o, 3)) (hx' : x.isRef = true) (hy' : y.isRef = true) (ho : 0 ≤ (pc : Int) + o) (hq' : ((pc : Int) + o).toNat = q') (hq : pc + 3 = q)
    (K1 : x = y → Go p l e R s m args below meth c Ph n0 h k n q' Ls st) (K2 : ¬ x = y → Go p l e R s m args below meth c Ph n0 h k n q Ls st) : Go p l e R s m args below meth c Ph n0 h k n pc Ls (y :: x :: st) := by
  by_cases hh : x = y
  · exact Go.pl (fun T t A S => XT.acmpYes A C.1 rfl rfl (hb C.2.1 d) rfl hx' hy' (by simpa [XT.acmp] using hh) ho hq' S) (K1 hh)
  · exact Go.pl (fun T t A S => XT.acmpNo A C.1 rfl (hb C.2.1 d) rfl hx' hy' (by simpa [XT.acmp] using hh) (by subst hq; exact S)) (K2 (by simpa using hh))
theorem g_acmp_ne (C : Cx p s m meth c Z own nm code ml ret) {x y : Value} {o : Int} {q' : Nat} (d : decode code pc = .ok (.if_acmp .ne o, 3)) (hx' : x.isRef = true) (hy' : y.isRef = true) (ho : 0 ≤ (pc : Int) + o) (hq' : ((pc : Int) + o).toNat = q') (hq : pc + 3 = q)
    (K1 : ¬ x = y → Go p l e R s m args below meth c Ph n0 h k n q' Ls st) (K2 : x = y → Go p l e R s m args below meth c Ph n0 h k n q Ls st) : Go p l e R s m args below meth c Ph n0 h k n pc Ls (y :: x :: st) := by
  by_cases hh : ¬ x = y
  · exact Go.pl (fun T t A S => XT.acmpYes A C.1 rfl rfl (hb C.2.1 d) rfl hx' hy' (by simpa [XT.acmp] using hh) ho hq' S) (K1 hh)
  · exact Go.pl (fun T t A S => XT.acmpNo A C.1 rfl (hb C.2.1 d) rfl hx' hy' (by simpa [XT.acmp] using hh) (by subst hq; exact S)) (K2 (by simpa using hh))
theorem g_getf (C : Cx p s m meth c Z own nm code ml ret) {R0 O f d' host : String} {index : Nat} {a : Addr} {v : Value} (d : decode code pc = .ok (.getfield index, 3)) (w : (Cond.fieldLink own index R0 f d').before a0 Z = true ∨ (Cond.fieldLinkNest own index R0 f d' host).before a0 Z = true) (via : Via Z R0 O f d') (F : Fld Z h a O f d' v) (hq : pc + 3 = q)
    (K : Go p l e R s m args below meth c Ph n0 h k n q Ls (v :: st)) : Go p l e R s m args below meth c Ph n0 h k n pc Ls (.ref a :: st) := fun T locs X N eT => by
  obtain ⟨T', X', e', stp⟩ := getF X C.1 C.2.2.2.2.1 C.2.2.2.1 w via eT F (g := mkF m pc Ls (.ref a :: st)) rfl rfl (hb C.2.1 d)
  obtain ⟨s₂, v, S, r⟩ := K T' locs X' N e'
  exact ⟨s₂, v, stp _ (by subst hq; exact S), r⟩
theorem g_gets (C : Cx p s m meth c Z own nm code ml ret) {R0 O f d' host : String} {index : Nat} {v : Value} (d : decode code pc = .ok (.getstatic index, 3)) (w : (Cond.fieldLink own index R0 f d').before a0 Z = true ∨ (Cond.fieldLinkNest own index R0 f d' host).before a0 Z = true) (via : Via Z R0 O f d') (F : Sta Z h O f d' v) (hq : pc + 3 = q)
    (K : Go p l e R s m args below meth c Ph n0 h k n q Ls (v :: st)) : Go p l e R s m args below meth c Ph n0 h k n pc Ls st := fun T locs X N eT => by
  obtain ⟨T', X', e', stp⟩ := getS2 X C.1 C.2.2.2.2.1 C.2.2.2.1 w via eT F (g := mkF m pc Ls st) rfl (hb C.2.1 d)
  obtain ⟨s₂, v, S, r⟩ := K T' locs X' N e'
  exact ⟨s₂, v, stp _ (by subst hq; exact S), r⟩
theorem g_putf (C : Cx p s m meth c Z own nm code ml ret) {R0 O f d' host Cl : String} {index kk : Nat} {a : Addr} {v old : Value} {ty : FieldType} (d : decode code pc = .ok (.putfield index, 3)) (w : (Cond.fieldLink own index R0 f d').before a0 Z = true ∨ (Cond.fieldLinkNest own index R0 f d' host).before a0 Z = true) (via : Via Z R0 O f d') (F : Fld Z h a O f d' old) (E : Exa Z h a Cl)
    (L : (Cond.lays Cl O f d').before a0 Z = true ∨ ((Cond.laysFinal Cl O f d').before a0 Z = true ∧ own = O ∧ nm = "<init>")) (wi : (Cond.instantiable Cl kk).before a0 Z = true) (hty : parseFieldDescriptor d' = some ty) (hn : narrow ty v = v) (hf : fits ty v = true) (ha : n0 ≤ a) (hq : pc + 3 = q)
    (K : ∀ h', Wr h h' a (Jvm.RoadKit.slotOf Z O f d') v → Go p l e R s m args below meth c Ph n0 h' k n q Ls st) : Go p l e R s m args below meth c Ph n0 h k n pc Ls (v :: .ref a :: st) := fun T locs X N eT => by
  obtain ⟨T', h', X', e', W, stp⟩ := putF X C.1 C.2.2.2.2.1 C.2.2.2.1 w via eT F E (L.imp id fun q => ⟨q.1, q.2.1, C.2.2.2.2.2.1.trans q.2.2⟩) wi hty hn hf (g := mkF m pc Ls (v :: .ref a :: st)) rfl rfl (hb C.2.1 d)
  obtain ⟨s₂, v, S, r⟩ := K h' W T' _ X' (Fr.snoc X' N ha) e'
  exact ⟨s₂, v, stp _ (by subst hq; exact S), r⟩
theorem g_new (C : Cx p s m meth c Z own nm code ml ret) {Cl : String} {index nn : Nat} (d : decode code pc = .ok (.new index, 3)) (w : (Cond.classLink own index Cl).before a0 Z = true) (wi : (Cond.instantiable Cl nn).before a0 Z = true) (wz : (Cond.initialized Cl).before a0 Z = true) (hc : k + 1 ≤ R.cells) (hl : n + nn ≤ R.slots) (hq : pc + 3 = q)
    (K : ∀ (a : Addr) (h' : Heap), a = h.size → Ext h h' → Exa Z h' a Cl → (∀ {O f d' : String} {ty : FieldType}, Laid Z a0 Cl O f d' → parseFieldDescriptor d' = some ty → Fld Z h' a O f d' (defaultValue ty)) → Go p l e R s m args below meth c Ph n0 h' (k + 1) (n + nn) q Ls (.ref a :: st)) : Go p l e R s m args below meth c Ph n0 h k n pc Ls st := fun T locs X N eT => by
  obtain ⟨T', h', X', e', E, A, D, -, stp⟩ := newO X C.1 C.2.2.2.2.1 C.2.2.2.1 w wi wz eT (g := mkF m pc Ls st) rfl (hb C.2.1 d) hc hl
  obtain ⟨s₂, v, S, r⟩ := K _ h' rfl E A D T' locs X' N e'
  exact ⟨s₂, v, stp _ (by subst hq; exact S), r⟩
theorem g_newarray (C : Cx p s m meth c Z own nm code ml ret) {aty : ArrayType} {N' : Int32} {cap : Nat} (d : decode code pc = .ok (.newarray aty, 2)) (w : (Cond.arrayClass (newarray.typeOf aty)).before a0 Z = true) (hn : ¬ N' < 0) (hcap : N'.toNatClampNeg ≤ cap) (hbg : cap * 8 ≤ 536870912) (hc : k + 1 ≤ R.cells) (hl : n + cap ≤ R.slots) (hq : pc + 2 = q)
    (K : ∀ (a : Addr) (h' : Heap) (cA : ClassId), a = h.size → Ext h h' → Arr Z h' a (newA cA (newarray.typeOf aty) N') (newarray.typeOf aty) → Go p l e R s m args below meth c Ph n0 h' (k + 1) (n + cap) q Ls (.ref a :: st)) : Go p l e R s m args below meth c Ph n0 h k n pc Ls (.int N' :: st) := fun T locs X N eT => by
  obtain ⟨T', h', cA, X', e', E, A, stp⟩ := newP X C.1 C.2.2.2.2.1 w eT (g := mkF m pc Ls (.int N' :: st)) rfl (hb C.2.1 d) rfl hn hcap hbg hc hl
  obtain ⟨s₂, v, S, r⟩ := K _ h' cA rfl E A T' locs X' N e'
  exact ⟨s₂, v, stp _ (by subst hq; exact S), r⟩
theorem g_anewarray (C : Cx p s m meth c Z own nm code ml ret) {Cl : String} {index : Nat} {N' : Int32} {cap : Nat} (d : decode code pc = .ok (.anewarray index, 3)) (w1 : (Cond.classLink own index Cl).before a0 Z = true) (w2 : (Cond.arrayOver (.object Cl)).before a0 Z = true) (hn : ¬ N' < 0) (hcap : N'.toNatClampNeg ≤ cap) (hbg : cap * 8 ≤ 536870912) (hc : k + 1 ≤ R.cells) (hl : n + cap ≤ R.slots) (hq : pc + 3 = q)
    (K : ∀ (a : Addr) (h' : Heap) (cA : ClassId), a = h.size → Ext h h' → Arr Z h' a (newA cA (.object Cl) N') (.object Cl) → Ovr Z cA Cl → Go p l e R s m args below meth c Ph n0 h' (k + 1) (n + cap) q Ls (.ref a :: st)) : Go p l e R s m args below meth c Ph n0 h k n pc Ls (.int N' :: st) := fun T locs X N eT => by
  obtain ⟨T', h', cA, X', e', E, A, O, stp⟩ := newR X C.1 C.2.2.2.2.1 C.2.2.2.1 w1 w2 eT (g := mkF m pc Ls (.int N' :: st)) rfl (hb C.2.1 d) rfl hn hcap hbg hc hl
  obtain ⟨s₂, v, S, r⟩ := K _ h' cA rfl E A O T' locs X' N e'
  exact ⟨s₂, v, stp _ (by subst hq; exact S), r⟩
theorem g_initO (C : Cx p s m meth c Z own nm code ml ret) {idx : Nat} {a : Addr} {W : Nat} (d : decode code pc = .ok (.invokespecial idx, 3)) (w1 : (Cond.methodLink own idx Lib.objectInit).before a0 Z = true) (w2 : (Cond.instanceMethod Lib.objectInit).before a0 Z = true) (w3 : (Cond.code Lib.objectInit ⟨#[0xb1]⟩ 1 none).before a0 Z = true)
    (hsz : Ls.size = ml) (hf : 1 ≤ R.frames) (hW : (st.map fun v => v.category).sum = W) (hl : W + 12 ≤ R.locals) (hq : pc + 3 = q) (K : Go p l e R s m args below meth c Ph n0 h k n q Ls st) : Go p l e R s m args below meth c Ph n0 h k n pc Ls (.ref a :: st) := fun T locs X N eT => by
  obtain ⟨T', X', e', stp⟩ := initO X C.1 C.2.2.2.2.1 C.2.2.2.1 w1 w2 w3 eT (g := mkF m pc Ls (.ref a :: st)) rfl (hsz.trans C.2.2.1.symm) rfl (hb C.2.1 d) hf (W := W) (by show 2 * 0 + _ ≤ _; rw [hW]; omega) hl
  obtain ⟨s₂, v, S, r⟩ := K T' locs X' N e'
  exact ⟨s₂, v, stp _ (by subst hq; exact S), r⟩
theorem g_castY (C : Cx p s m meth c Z own nm code ml ret) {K' : String} {index : Nat} {a : Addr} (d : decode code pc = .ok (.checkcast index, 3)) (w : (Cond.classLink own index K').before a0 Z = true) (F : Ins Z h a K' true) (hq : pc + 3 = q) (K : Go p l e R s m args below meth c Ph n0 h k n q Ls (.ref a :: st)) : Go p l e R s m args below meth c Ph n0 h k n pc Ls (.ref a :: st) := fun T locs X N eT => by
  obtain ⟨T', X', e', stp⟩ := castY X C.1 C.2.2.2.2.1 C.2.2.2.1 w eT F (g := mkF m pc Ls (.ref a :: st)) rfl rfl (hb C.2.1 d)
  obtain ⟨s₂, v, S, r⟩ := K T' locs X' N e'
  exact ⟨s₂, v, stp _ (by subst hq; exact S), r⟩
theorem g_instY (C : Cx p s m meth c Z own nm code ml ret) {K' : String} {index : Nat} {a : Addr} (d : decode code pc = .ok (.instanceof index, 3)) (w : (Cond.classLink own index K').before a0 Z = true) (F : Ins Z h a K' true) (hq : pc + 3 = q) (K : Go p l e R s m args below meth c Ph n0 h k n q Ls (.int 1 :: st)) : Go p l e R s m args below meth c Ph n0 h k n pc Ls (.ref a :: st) := fun T locs X N eT => by
  obtain ⟨T', X', e', stp⟩ := instY X C.1 C.2.2.2.2.1 C.2.2.2.1 w eT F (g := mkF m pc Ls (.ref a :: st)) rfl rfl (hb C.2.1 d)
  obtain ⟨s₂, v, S, r⟩ := K T' locs X' N e'
  exact ⟨s₂, v, stp _ (by subst hq; exact S), r⟩
theorem g_ldcInt (C : Cx p s m meth c Z own nm code ml ret) {index : Nat} {v : Int32} (d : decode code pc = .ok (.ldc index, 2)) (w : (Cond.constant own index v).before a0 Z = true) (hq : pc + 2 = q) (K : Go p l e R s m args below meth c Ph n0 h k n q Ls (.int v :: st)) : Go p l e R s m args below meth c Ph n0 h k n pc Ls st := fun T locs X N eT => by
  obtain ⟨s₂, v', S, r⟩ := K T locs X N eT
  exact ⟨s₂, v', X.ldcInt C.1 C.2.2.2.1 (mvT C.2.2.2.2.1 w) (g := mkF m pc Ls st) rfl (hb C.2.1 d) _ (by subst hq; exact S), r⟩
theorem g_ldc2Long (C : Cx p s m meth c Z own nm code ml ret) {index : Nat} {v : Int64} (d : decode code pc = .ok (.ldc2_w index, 3)) (w : (Cond.constantLong own index v).before a0 Z = true) (hq : pc + 3 = q) (K : Go p l e R s m args below meth c Ph n0 h k n q Ls (.long v :: st)) : Go p l e R s m args below meth c Ph n0 h k n pc Ls st := fun T locs X N eT => by
  obtain ⟨s₂, v', S, r⟩ := K T locs X N eT
  exact ⟨s₂, v', X.ldc2Long C.1 C.2.2.2.1 (mvT C.2.2.2.2.1 w) (g := mkF m pc Ls st) rfl (hb C.2.1 d) _ (by subst hq; exact S), r⟩
/-- an array of N places; place j holds f j -/
def Av (Z : State) (h : Heap) (a : Addr) (ty : FieldType) (N : Nat) (f : Nat → Value) : Prop := ∃ c : Cell, Arr Z h a c ty ∧ c.slots.size = N ∧ N < 2 ^ 31 ∧ ∀ j, j < N → c.slots[j]? = some (f j)
theorem Av.ext {h' : Heap} {a : Addr} {ty : FieldType} {N : Nat} {f : Nat → Value} (A : Av Z h a ty N f) (E : Ext h h') : Av Z h' a ty N f := by obtain ⟨c, A, r⟩ := A; exact ⟨c, A.ext E, r⟩
theorem Av.lt {a : Addr} {ty : FieldType} {N : Nat} {f : Nat → Value} (A : Av Z h a ty N f) : a < h.size := by obtain ⟨c, A, r⟩ := A; exact A.lt
theorem Av.other {h' : Heap} {a b : Addr} {ty : FieldType} {N sl : Nat} {v : Value} {f : Nat → Value} (A : Av Z h b ty N f) (W : Wr h h' a sl v) (ne : b ≠ a) : Av Z h' b ty N f := by obtain ⟨c, A, r⟩ := A; exact ⟨c, A.other W ne, r⟩
theorem Av.keep {h' : Heap} {a : Addr} {ty : FieldType} {N : Nat} {f : Nat → Value} {ws : List Addr} (A : Av Z h a ty N f) (K : Keep h h' ws) (ne : a ∉ ws) : Av Z h' a ty N f := by obtain ⟨c, A, r⟩ := A; exact ⟨c, ⟨K.2.1 a c A.1 ne, A.2⟩, r⟩
theorem Av.congr {a : Addr} {ty : FieldType} {N : Nat} {f g : Nat → Value} (A : Av Z h a ty N f) (hfg : ∀ j, j < N → f j = g j) : Av Z h a ty N g := by obtain ⟨c, A, r1, r2, r3⟩ := A; exact ⟨c, A, r1, r2, fun j hj => by rw [r3 j hj, hfg j hj]⟩
theorem Av.set {h' : Heap} {a : Addr} {ty : FieldType} {N i : Nat} {v : Value} {f : Nat → Value} (A : Av Z h a ty N f) (W : Wr h h' a i v) (hi : i < N) : Av Z h' a ty N (fun j => if j = i then v else f j) := by
  obtain ⟨c, A, r1, r2, r3⟩ := A
  refine ⟨c.setSlot i v, A.same W, by rw [sz_set]; exact r1, r2, fun j hj => ?_⟩
  by_cases e : j = i
  · subst e; simp [Cell.setSlot, r1, hi]
  · show (c.setSlot i v).slots[j]? = some (if j = i then v else f j)
    rw [if_neg e, ← r3 j hj]; simp [Cell.setSlot, Array.getElem?_setIfInBounds_ne (Ne.symm e)]
theorem Av.new {a : Addr} {ty : FieldType} {cA : ClassId} {N' : Int32} (A : Arr Z h a (newA cA ty N') ty) (hn : ¬ N' < 0) : Av Z h a ty N'.toNatClampNeg (fun _ => defaultValue ty) :=
  ⟨_, A, sz_new _ _ _, (back32 hn).2, fun j hj => by simp [newA, hj]⟩
theorem Av.ne_exa {a b : Addr} {ty : FieldType} {N kk : Nat} {f : Nat → Value} {Cl : String} (A : Av Z h a ty N f) (E : Exa Z h b Cl) (wi : (Cond.instantiable Cl kk).before a0 Z = true) : a ≠ b := by obtain ⟨c, A, r⟩ := A; exact Ne.symm (ne_arr E wi A)
theorem i32_idx {i N : Nat} (hi : i < N) (hN : N < 2 ^ 31) {c : Cell} (hc : c.slots.size = N) : (¬ (Int32.ofNat i < 0 ∨ c.slots.size ≤ (Int32.ofNat i).toNatClampNeg)) ∧ (Int32.ofNat i).toNatClampNeg = i := by
  have e : (Int32.ofNat i).toNatClampNeg = i := Int32.toNatClampNeg_ofNat_of_lt (by omega)
  refine ⟨?_, e⟩
  rw [e, hc]
  rintro (q | q)
  · have := Int32.lt_iff_toInt_lt.mp q
    rw [Int32.toInt_ofNat_of_lt (by omega)] at this
    simp at this
    omega
  · omega
theorem g_iaload (C : Cx p s m meth c Z own nm code ml ret) {a : Addr} {N i : Nat} {f : Nat → Value} {j : Int32} {v : Value} (d : decode code pc = .ok (.iaload, 1)) (A : Av Z h a .int N f) (hi : i < N) (hj : j = Int32.ofNat i) (hv : f i = v) (hq : pc + 1 = q) (K : Go p l e R s m args below meth c Ph n0 h k n q Ls (v :: st)) : Go p l e R s m args below meth c Ph n0 h k n pc Ls (.int j :: .ref a :: st) := fun T locs X N' eT => by
  obtain ⟨c', A, r1, r2, r3⟩ := A
  obtain ⟨g1, g2⟩ := i32_idx hi r2 r1
  obtain ⟨s₂, v', S, r⟩ := K T locs X N' eT
  subst hj hv
  exact ⟨s₂, v', X.iaload C.1 (by rw [eT]; exact A.1) (State.isArrayOf_alike C.2.2.2.2.1.alike A.2.1) A.2.2 g1 (by rw [g2]; exact r3 i hi) (g := mkF m pc Ls _) rfl rfl (hb C.2.1 d) _ (by subst hq; exact S), r⟩
theorem g_laload (C : Cx p s m meth c Z own nm code ml ret) {a : Addr} {N i : Nat} {f : Nat → Value} {j : Int32} {v : Value} (d : decode code pc = .ok (.laload, 1)) (A : Av Z h a .long N f) (hi : i < N) (hj : j = Int32.ofNat i) (hv : f i = v) (hq : pc + 1 = q) (K : Go p l e R s m args below meth c Ph n0 h k n q Ls (v :: st)) : Go p l e R s m args below meth c Ph n0 h k n pc Ls (.int j :: .ref a :: st) := fun T locs X N' eT => by
  obtain ⟨c', A, r1, r2, r3⟩ := A
  obtain ⟨g1, g2⟩ := i32_idx hi r2 r1
  obtain ⟨s₂, v', S, r⟩ := K T locs X N' eT
  subst hj hv
  exact ⟨s₂, v', X.laload C.1 (by rw [eT]; exact A.1) (State.isArrayOf_alike C.2.2.2.2.1.alike A.2.1) A.2.2 g1 (by rw [g2]; exact r3 i hi) (g := mkF m pc Ls _) rfl rfl (hb C.2.1 d) _ (by subst hq; exact S), r⟩
theorem g_caload (C : Cx p s m meth c Z own nm code ml ret) {a : Addr} {N i : Nat} {f : Nat → Value} {j : Int32} {v : Value} (d : decode code pc = .ok (.caload, 1)) (A : Av Z h a .char N f) (hi : i < N) (hj : j = Int32.ofNat i) (hv : f i = v) (hq : pc + 1 = q) (K : Go p l e R s m args below meth c Ph n0 h k n q Ls (v :: st)) : Go p l e R s m args below meth c Ph n0 h k n pc Ls (.int j :: .ref a :: st) := fun T locs X N' eT => by
  obtain ⟨c', A, r1, r2, r3⟩ := A
  obtain ⟨g1, g2⟩ := i32_idx hi r2 r1
  obtain ⟨s₂, v', S, r⟩ := K T locs X N' eT
  subst hj hv
  exact ⟨s₂, v', X.caload C.1 (by rw [eT]; exact A.1) (State.isArrayOf_alike C.2.2.2.2.1.alike A.2.1) A.2.2 g1 (by rw [g2]; exact r3 i hi) (g := mkF m pc Ls _) rfl rfl (hb C.2.1 d) _ (by subst hq; exact S), r⟩
theorem g_baload (C : Cx p s m meth c Z own nm code ml ret) {a : Addr} {N i : Nat} {f : Nat → Value} {j : Int32} {v : Value} (d : decode code pc = .ok (.baload, 1)) (A : Av Z h a .byte N f) (hi : i < N) (hj : j = Int32.ofNat i) (hv : f i = v) (hq : pc + 1 = q) (K : Go p l e R s m args below meth c Ph n0 h k n q Ls (v :: st)) : Go p l e R s m args below meth c Ph n0 h k n pc Ls (.int j :: .ref a :: st) := fun T locs X N' eT => by
  obtain ⟨c', A, r1, r2, r3⟩ := A
  obtain ⟨g1, g2⟩ := i32_idx hi r2 r1
  obtain ⟨s₂, v', S, r⟩ := K T locs X N' eT
  subst hj hv
  exact ⟨s₂, v', X.baloadBytes C.1 (by rw [eT]; exact A.1) (State.isArrayOf_alike C.2.2.2.2.1.alike A.2.1) A.2.2 g1 (by rw [g2]; exact r3 i hi) (g := mkF m pc Ls _) rfl rfl (hb C.2.1 d) _ (by subst hq; exact S), r⟩
theorem g_aaload (C : Cx p s m meth c Z own nm code ml ret) {a : Addr} {N i : Nat} {f : Nat → Value} {j : Int32} {v : Value} {ty : FieldType} (d : decode code pc = .ok (.aaload, 1)) (A : Av Z h a ty N f) (hty : ty.isReference = true) (hi : i < N) (hj : j = Int32.ofNat i) (hv : f i = v) (hq : pc + 1 = q) (K : Go p l e R s m args below meth c Ph n0 h k n q Ls (v :: st)) : Go p l e R s m args below meth c Ph n0 h k n pc Ls (.int j :: .ref a :: st) := fun T locs X N' eT => by
  obtain ⟨c', A, r1, r2, r3⟩ := A
  obtain ⟨g1, g2⟩ := i32_idx hi r2 r1
  obtain ⟨s₂, v', S, r⟩ := K T locs X N' eT
  subst hj hv
  exact ⟨s₂, v', X.aaload C.1 (by rw [eT]; exact A.1) (State.isArrayOf_alike C.2.2.2.2.1.alike A.2.1) hty A.2.2 g1 (by rw [g2]; exact r3 i hi) (g := mkF m pc Ls _) rfl rfl (hb C.2.1 d) _ (by subst hq; exact S), r⟩
theorem g_alen (C : Cx p s m meth c Z own nm code ml ret) {a : Addr} {N : Nat} {f : Nat → Value} {ty : FieldType} {z : Int32} (d : decode code pc = .ok (.arraylength, 1)) (A : Av Z h a ty N f) (hz : Int32.ofNat N = z) (hq : pc + 1 = q) (K : Go p l e R s m args below meth c Ph n0 h k n q Ls (.int z :: st)) : Go p l e R s m args below meth c Ph n0 h k n pc Ls (.ref a :: st) := fun T locs X N' eT => by
  obtain ⟨c', A, r1, r2, r3⟩ := A
  obtain ⟨s₂, v', S, r⟩ := K T locs X N' eT
  refine ⟨s₂, v', X.arraylength C.1 (by rw [eT]; exact A.1) (State.isArrayOf_alike C.2.2.2.2.1.alike A.2.1) (g := mkF m pc Ls _) rfl rfl (hb C.2.1 d) _ ?_, r⟩
  subst hq hz
  rw [r1]
  exact S
theorem g_iastore (C : Cx p s m meth c Z own nm code ml ret) {a : Addr} {N i : Nat} {f : Nat → Value} {j : Int32} {x : Int32} (d : decode code pc = .ok (.iastore, 1)) (A : Av Z h a .int N f) (hi : i < N) (hj : j = Int32.ofNat i) (ha : n0 ≤ a) (hq : pc + 1 = q)
    (K : ∀ h', Wr h h' a i (.int x) → Av Z h' a .int N (fun j => if j = i then (.int x) else f j) → Go p l e R s m args below meth c Ph n0 h' k n q Ls st) : Go p l e R s m args below meth c Ph n0 h k n pc Ls (.int x :: .int j :: .ref a :: st) := fun T locs X N' eT => by
  have A' := A
  obtain ⟨c', A, r1, r2, r3⟩ := A
  obtain ⟨g1, g2⟩ := i32_idx hi r2 r1
  subst hj
  obtain ⟨T', h', X', e', W, stp⟩ := stI X C.1 C.2.2.2.2.1 eT A g1 (g := mkF m pc Ls (.int x :: .int (Int32.ofNat i) :: .ref a :: st)) rfl rfl (hb C.2.1 d)
  have N2 := Fr.snoc X' N' ha
  rw [g2] at W
  obtain ⟨s₂, v, S, r⟩ := K h' W (A'.set W hi) T' _ X' N2 e'
  exact ⟨s₂, v, stp _ (by subst hq; exact S), r⟩
theorem g_lastore (C : Cx p s m meth c Z own nm code ml ret) {a : Addr} {N i : Nat} {f : Nat → Value} {j : Int32} {x : Int64} (d : decode code pc = .ok (.lastore, 1)) (A : Av Z h a .long N f) (hi : i < N) (hj : j = Int32.ofNat i) (ha : n0 ≤ a) (hq : pc + 1 = q)
    (K : ∀ h', Wr h h' a i (.long x) → Av Z h' a .long N (fun j => if j = i then (.long x) else f j) → Go p l e R s m args below meth c Ph n0 h' k n q Ls st) : Go p l e R s m args below meth c Ph n0 h k n pc Ls (.long x :: .int j :: .ref a :: st) := fun T locs X N' eT => by
  have A' := A
  obtain ⟨c', A, r1, r2, r3⟩ := A
  obtain ⟨g1, g2⟩ := i32_idx hi r2 r1
  subst hj
  obtain ⟨T', h', X', e', W, stp⟩ := stJ X C.1 C.2.2.2.2.1 eT A g1 (g := mkF m pc Ls (.long x :: .int (Int32.ofNat i) :: .ref a :: st)) rfl rfl (hb C.2.1 d)
  have N2 := Fr.snoc X' N' ha
  rw [g2] at W
  obtain ⟨s₂, v, S, r⟩ := K h' W (A'.set W hi) T' _ X' N2 e'
  exact ⟨s₂, v, stp _ (by subst hq; exact S), r⟩
theorem g_castore (C : Cx p s m meth c Z own nm code ml ret) {a : Addr} {N i : Nat} {f : Nat → Value} {j : Int32} {x : Int32} (d : decode code pc = .ok (.castore, 1)) (A : Av Z h a .char N f) (hi : i < N) (hj : j = Int32.ofNat i) (ha : n0 ≤ a) (hq : pc + 1 = q)
    (K : ∀ h', Wr h h' a i (.int (nar .char x)) → Av Z h' a .char N (fun j => if j = i then (.int (nar .char x)) else f j) → Go p l e R s m args below meth c Ph n0 h' k n q Ls st) : Go p l e R s m args below meth c Ph n0 h k n pc Ls (.int x :: .int j :: .ref a :: st) := fun T locs X N' eT => by
  have A' := A
  obtain ⟨c', A, r1, r2, r3⟩ := A
  obtain ⟨g1, g2⟩ := i32_idx hi r2 r1
  subst hj
  obtain ⟨T', h', X', e', W, stp⟩ := stC X C.1 C.2.2.2.2.1 eT A g1 (g := mkF m pc Ls (.int x :: .int (Int32.ofNat i) :: .ref a :: st)) rfl rfl (hb C.2.1 d)
  have N2 := Fr.snoc X' N' ha
  rw [g2] at W
  obtain ⟨s₂, v, S, r⟩ := K h' W (A'.set W hi) T' _ X' N2 e'
  exact ⟨s₂, v, stp _ (by subst hq; exact S), r⟩
theorem g_bastore (C : Cx p s m meth c Z own nm code ml ret) {a : Addr} {N i : Nat} {f : Nat → Value} {j : Int32} {x : Int32} (d : decode code pc = .ok (.bastore, 1)) (A : Av Z h a .byte N f) (hi : i < N) (hj : j = Int32.ofNat i) (ha : n0 ≤ a) (hq : pc + 1 = q)
    (K : ∀ h', Wr h h' a i (.int (nar .byte x)) → Av Z h' a .byte N (fun j => if j = i then (.int (nar .byte x)) else f j) → Go p l e R s m args below meth c Ph n0 h' k n q Ls st) : Go p l e R s m args below meth c Ph n0 h k n pc Ls (.int x :: .int j :: .ref a :: st) := fun T locs X N' eT => by
  have A' := A
  obtain ⟨c', A, r1, r2, r3⟩ := A
  obtain ⟨g1, g2⟩ := i32_idx hi r2 r1
  subst hj
  obtain ⟨T', h', X', e', W, stp⟩ := stB X C.1 C.2.2.2.2.1 eT A g1 (g := mkF m pc Ls (.int x :: .int (Int32.ofNat i) :: .ref a :: st)) rfl rfl (hb C.2.1 d)
  have N2 := Fr.snoc X' N' ha
  rw [g2] at W
  obtain ⟨s₂, v, S, r⟩ := K h' W (A'.set W hi) T' _ X' N2 e'
  exact ⟨s₂, v, stp _ (by subst hq; exact S), r⟩
theorem g_aastore (C : Cx p s m meth c Z own nm code ml ret) {a : Addr} {N i : Nat} {f : Nat → Value} {j : Int32} {x : Value} {ty : FieldType} (d : decode code pc = .ok (.aastore, 1)) (A : Av Z h a ty N f) (hi : i < N) (hj : j = Int32.ofNat i) (hty : ty.isReference = true) (F : Sto Z h a x) (ha : n0 ≤ a) (hq : pc + 1 = q)
    (K : ∀ h', Wr h h' a i x → Av Z h' a ty N (fun j => if j = i then x else f j) → Go p l e R s m args below meth c Ph n0 h' k n q Ls st) : Go p l e R s m args below meth c Ph n0 h k n pc Ls (x :: .int j :: .ref a :: st) := fun T locs X N' eT => by
  have A' := A
  obtain ⟨c', A, r1, r2, r3⟩ := A
  obtain ⟨g1, g2⟩ := i32_idx hi r2 r1
  subst hj
  obtain ⟨T', h', X', e', W, stp⟩ := stR X C.1 C.2.2.2.2.1 eT A g1 hty F (g := mkF m pc Ls (x :: .int (Int32.ofNat i) :: .ref a :: st)) rfl rfl (hb C.2.1 d)
  have N2 := Fr.snoc X' N' ha
  rw [g2] at W
  obtain ⟨s₂, v, S, r⟩ := K h' W (A'.set W hi) T' _ X' N2 e'
  exact ⟨s₂, v, stp _ (by subst hq; exact S), r⟩
/-- a contract: with the arguments as', from the heap hs, the call returns v with Q v (the heap then); the written places lie at or above nf; rm: its room -/
def Ctr (l : Launch) (Z : State) (y : MethodName) (bytes : ByteArray) (maxL : Nat) (rt : Option FieldType) (rm : Room) (as' : Array Value) (hs : Heap) (nf : Nat) (Q : Option Value → Heap → Prop) : Prop :=
  MetFree l y (head1 [Cond.code y bytes maxL rt] rm) (fun a U => a = as' ∧ Z.Warmed39 U.vm ∧ U.heap = hs) (fun _ _ _ _ _ => True) (fun _ U o U' => ∃ v L, o = .returned v ∧ (Q v U'.heap ∧ Fr nf L) ∧ FrameEnd U o U' L rm.cells rm.slots)
/-- what a narrow walk must come to -/
def FinN (s : State) (below : List Frame) (rm : Room) (nf : Nat) (Q : Option Value → Heap → Prop) : State → Option Value → Prop :=
  fun s₂ v => s₂.status = .running ∧ Ended s₂ below (.returned v) ∧ ∃ L, (Q v s₂.heap ∧ Fr nf L) ∧ FrameEnd s (.returned v) s₂ L rm.cells rm.slots
theorem Ctr.of {l : Launch} {Z : State} {y : MethodName} {bytes : ByteArray} {maxL : Nat} {rt : Option FieldType} {rm : Room} {as' : Array Value} {hs : Heap} {nf : Nat} {Q : Option Value → Heap → Prop} {n1 : Nat} (Ls : Array Slot) (hp : plainFor y = true) (hE : ∀ m, entryFrame m as' maxL = mkF m 0 Ls [])
    (B : ∀ (p : Program) (e : Env) (s : State) (m : MethodId) (below : List Frame) (meth : Method) (c : Code), Cx p s m meth c Z y.cls y.name bytes maxL rt → Go p l e rm s m as' below meth c (FinN s below rm nf Q) n1 hs 0 0 0 Ls []) : Ctr l Z y bytes maxL rt rm as' hs nf Q := by
  refine MetFree.of_bodySF hp hisR ?_
  intro p e s m args below meth c s₁ Bd hml0 hP hK
  obtain ⟨rfl, hZ, hh⟩ := hP
  have X0 : Stand p l e rm s m _ below meth c s₁ [] 0 0 := Stand.of_body Bd
  have e0 : s₁.heap = hs := by rw [← hh, Bd.state]; rfl
  obtain ⟨s₂, v, S, r1, r2, L, r3, r4⟩ := B p e s m below meth c ⟨Bd.exec, Bd.bytes, hml0, findClass_of_methodNamed Bd.named, hZ, (name_of_methodNamed Bd.named Bd.method).1, Bd.returns, Bd.notSynchronized⟩ s₁ [] X0 (Fr.nil _) e0
  exact ⟨s₂, _, castTop (hE m) S, r1, r2, v, L, rfl, r3, r4⟩
theorem fin_of {T : State} {locs : List Loc} {rm : Room} {nf : Nat} {Q : Option Value → Heap → Prop} {v : Option Value} {st' : List Value} (C : Cx p s m meth c Z own nm code ml ret) (X : Stand p l e R s m args below meth c T locs k n) (N : Fr n0 locs) (eT : T.heap = h) (hv : ret = none → v = none) (hn : nf ≤ n0) (hk : k ≤ rm.cells) (hl : n ≤ rm.slots) (hQ : Q v h)
    (H : ∀ fs, (∀ (f : JFrame) (acts : List Action), f.method = m → f.locked = none → f.entered = [] → (doReturn e (T.setTop f) acts v).1 = T.setFrames fs) → Steps p.tables e below (T.setTop (mkF m pc Ls st')) (T.setFrames fs)) :
    ∃ s₂ v, Steps p.tables e below (T.setTop (mkF m pc Ls st')) s₂ ∧ FinN s below rm nf Q s₂ v := by
  obtain ⟨fs, hr, hrun, hended, hW, hsame⟩ := X.leave (v := v) (fun hh => hv (C.2.2.2.2.2.2.1.symm.trans hh)) C.2.2.2.2.2.2.2
  exact ⟨_, v, H fs hr, hrun, hended, locs, ⟨by rw [show (T.setFrames fs).heap = h from eT]; exact hQ, fun y hy => Nat.le_trans hn (N y hy)⟩, ⟨v, rfl⟩, hW, hsame.mono hk hl⟩
theorem g_return {rm : Room} {nf : Nat} {Q : Option Value → Heap → Prop} (C : Cx p s m meth c Z own nm code ml none) (d : decode code pc = .ok (.return_, 1)) (hn : nf ≤ n0) (hk : k ≤ rm.cells) (hl : n ≤ rm.slots) (hQ : Q none h) : Go p l e R s m args below meth c (FinN s below rm nf Q) n0 h k n pc Ls [] :=
  fun T locs X N eT => fin_of C X N eT (fun _ => rfl) hn hk hl hQ fun fs hr => X.returnOut C.1 C.2.2.2.2.2.2.1 (hb C.2.1 d) hr
theorem g_ireturn {rm : Room} {nf : Nat} {Q : Option Value → Heap → Prop} {x : Int32} (C : Cx p s m meth c Z own nm code ml (some .int)) (d : decode code pc = .ok (.ireturn, 1)) (hn : nf ≤ n0) (hk : k ≤ rm.cells) (hl : n ≤ rm.slots) (hQ : Q (some (.int x)) h) : Go p l e R s m args below meth c (FinN s below rm nf Q) n0 h k n pc Ls (.int x :: st) :=
  fun T locs X N eT => fin_of C X N eT (fun hh => nomatch hh) hn hk hl hQ fun fs hr => retI X C.1 C.2.2.2.2.2.2.1 (hb C.2.1 d) hr
theorem g_nreturn {rm : Room} {nf : Nat} {Q : Option Value → Heap → Prop} {x z : Int32} {t : FieldType} (C : Cx p s m meth c Z own nm code ml (some t)) (d : decode code pc = .ok (.ireturn, 1)) (ht : t = .boolean ∨ t = .byte ∨ t = .char ∨ t = .short) (hz : nar t x = z) (hn : nf ≤ n0) (hk : k ≤ rm.cells) (hl : n ≤ rm.slots) (hQ : Q (some (.int z)) h) : Go p l e R s m args below meth c (FinN s below rm nf Q) n0 h k n pc Ls (.int x :: st) :=
  fun T locs X N eT => fin_of (v := some (.int z)) C X N eT (fun hh => nomatch hh) hn hk hl hQ fun fs hr => retN X C.1 C.2.2.2.2.2.2.1 ht (hb C.2.1 d) (by rw [hz]; exact hr)
theorem g_lreturn {rm : Room} {nf : Nat} {Q : Option Value → Heap → Prop} {x : Int64} (C : Cx p s m meth c Z own nm code ml (some .long)) (d : decode code pc = .ok (.lreturn, 1)) (hn : nf ≤ n0) (hk : k ≤ rm.cells) (hl : n ≤ rm.slots) (hQ : Q (some (.long x)) h) : Go p l e R s m args below meth c (FinN s below rm nf Q) n0 h k n pc Ls (.long x :: st) :=
  fun T locs X N eT => fin_of C X N eT (fun hh => nomatch hh) hn hk hl hQ fun fs hr => retOut X C.1 C.2.2.2.2.2.2.1 rfl (Or.inr (Or.inl ⟨rfl, rfl, x, rfl⟩)) (hb C.2.1 d) hr
theorem g_areturn {rm : Room} {nf : Nat} {Q : Option Value → Heap → Prop} {x : Value} {t : FieldType} (C : Cx p s m meth c Z own nm code ml (some t)) (d : decode code pc = .ok (.areturn, 1)) (ht : t.isReference = true) (hx : x.isRef = true) (hn : nf ≤ n0) (hk : k ≤ rm.cells) (hl : n ≤ rm.slots) (hQ : Q (some x) h) : Go p l e R s m args below meth c (FinN s below rm nf Q) n0 h k n pc Ls (x :: st) :=
  fun T locs X N eT => fin_of C X N eT (fun hh => nomatch hh) hn hk hl hQ fun fs hr => retOut X C.1 C.2.2.2.2.2.2.1 (by rcases ref_cases hx with rfl | ⟨a, rfl⟩ <;> cases t <;> first | rfl | cases ht) (Or.inr (Or.inr (Or.inr (Or.inr ⟨rfl, ht, hx⟩)))) (hb C.2.1 d) hr
/-- a callee that pays, at this walk -/
def BK (l : Launch) (R : Room) (p : Program) (e : Env) (below : List Frame) (s : State) (args : Array Value) (y : MethodName) (len W : Nat) (as' : Array Value) (h : Heap) (ck sk n0 : Nat) (Q : Option Value → Heap → Prop) : Prop :=
  Back l R p e below s args y len W (fun A a => a = as' ∧ A.U.heap = h ∧ A.cells + ck ≤ R.cells ∧ A.slots + sk ≤ R.slots) (fun A _ v B => ∃ L, (Q v B.U.heap ∧ Fr n0 L) ∧ B.locs = A.locs ++ L ∧ B.cells = A.cells + ck ∧ B.slots = A.slots + sk)
theorem Ctr.bk {y : MethodName} {bytes : ByteArray} {maxL len W : Nat} {rt : Option FieldType} {rm : Room} {as' : Array Value} {Q : Option Value → Heap → Prop} (M : Ctr l Z y bytes maxL rt rm as' h n0 Q) (C : Cx p s m meth c Z own nm code ml ret) (w4 : (Cond.code y bytes maxL rt).before a0 Z = true) (w3 : (Cond.initialized y.cls).before a0 Z = true) (hf : rm.frames + 1 ≤ R.frames) (hl : W + (maxL + 11) + rm.locals ≤ R.locals) : BK l R p e below s args y len W as' h rm.cells rm.slots n0 Q :=
  backOf (W := W) (Q := fun v h' L => Q v h' ∧ Fr n0 L) M C.2.2.2.2.1 w4 w3 hf hl
theorem g_callS (C : Cx p s m meth c Z own nm code ml ret) {y : MethodName} {bytes : ByteArray} {maxL ck sk : Nat} {rt : Option FieldType} {Q : Option Value → Heap → Prop} {index W : Nat} {argsL : List Value} (d : decode code pc = .ok (.invokestatic index, 3)) (w1 : (Cond.methodLink own index y).before a0 Z = true) (w2 : (Cond.static y).before a0 Z = true) (w3 : (Cond.initialized y.cls).before a0 Z = true) (w4 : (Cond.code y bytes maxL rt).before a0 Z = true) (hy : y.cls ≠ "java/lang/invoke/MethodHandle" ∧ y.cls ≠ "java/lang/invoke/VarHandle")
    (M : BK l R p e below s args y 3 W argsL.toArray h ck sk n0 Q) (hc : k + ck ≤ R.cells) (hs : n + sk ≤ R.slots) (hsz : Ls.size = ml) (hlen : ∀ sig, parseMethodDescriptor y.desc = some sig → argsL.length = sig.parameters.length) (hst : st = argsL.reverse ++ rest) (hW : (rest.map fun v => v.category).sum = W) (hq : pc + 3 = q)
    (K : ∀ v h', Q v h' → ∃ st', st' = v.toList ++ rest ∧ Go p l e R s m args below meth c Ph n0 h' (k + ck) (n + sk) q Ls st') : Go p l e R s m args below meth c Ph n0 h k n pc Ls st := fun T locs X N eT => by
  have hZ := C.2.2.2.2.1
  obtain ⟨v, vm1, ⟨T', L', k', n'⟩, -, X', ⟨L, ⟨hQ, NL⟩, l1, l2, l3⟩, stp⟩ := Jvm.LawKit.callS X C.1 (y := y) C.2.2.2.1 (mvT hZ w1) (mvT hZ w2) (mvT hZ w3) (mvT hZ w4) hy M (g := mkF m pc Ls st) rfl (hsz.trans C.2.2.1.symm) (argsL := argsL) (rest := rest) hlen hst (by show 2 * 0 + _ ≤ _; rw [hW]; omega) (hb C.2.1 d) (fun _ _ => ⟨rfl, eT, hc, hs⟩)
  dsimp only [Pt.U, Pt.locs, Pt.cells, Pt.slots] at X' l1 l2 l3 stp
  subst l1 l2 l3
  obtain ⟨st', hst', K'⟩ := K v _ hQ
  obtain ⟨s₂, v', S, r⟩ := K' _ _ X' (N.app NL) rfl
  exact ⟨s₂, v', stp _ (by subst hq hst'; exact S), r⟩
theorem g_callI (C : Cx p s m meth c Z own nm code ml ret) {y : MethodName} {bytes : ByteArray} {maxL ck sk : Nat} {Q : Option Value → Heap → Prop} {index W : Nat} {argsL : List Value} {a : Addr} (d : decode code pc = .ok (.invokespecial index, 3)) (hy1 : y.name = "<init>") (w1 : (Cond.methodLink own index y).before a0 Z = true) (w2 : (Cond.instanceMethod y).before a0 Z = true) (w4 : (Cond.code y bytes maxL none).before a0 Z = true) (hy : y.cls ≠ "java/lang/invoke/MethodHandle" ∧ y.cls ≠ "java/lang/invoke/VarHandle")
    (M : BK l R p e below s args y 3 W (.ref a :: argsL).toArray h ck sk n0 Q) (hc : k + ck ≤ R.cells) (hs : n + sk ≤ R.slots) (hsz : Ls.size = ml) (hlen : ∀ sig, parseMethodDescriptor y.desc = some sig → argsL.length = sig.parameters.length) (hst : st = argsL.reverse ++ .ref a :: rest) (hW : (rest.map fun v => v.category).sum = W) (hq : pc + 3 = q)
    (K : ∀ v h', Q v h' → ∃ st', st' = v.toList ++ rest ∧ Go p l e R s m args below meth c Ph n0 h' (k + ck) (n + sk) q Ls st') : Go p l e R s m args below meth c Ph n0 h k n pc Ls st := fun T locs X N eT => by
  have hZ := C.2.2.2.2.1
  obtain ⟨v, vm1, ⟨T', L', k', n'⟩, -, X', ⟨L, ⟨hQ, NL⟩, l1, l2, l3⟩, stp⟩ := X.specialBack C.1 (y := y) hy1 C.2.2.2.1 (mvT hZ w1) (mvT hZ w2) (mvT hZ w4) hy M (g := mkF m pc Ls st) rfl (hsz.trans C.2.2.1.symm) (Steps.refl _) (a := a) (argsL := argsL) (rest := rest) hlen hst (by show 2 * 0 + _ ≤ _; rw [hW]; omega) (hb C.2.1 d) (fun _ _ => ⟨rfl, eT, hc, hs⟩)
  dsimp only [Pt.U, Pt.locs, Pt.cells, Pt.slots] at X' l1 l2 l3 stp
  subst l1 l2 l3
  obtain ⟨st', hst', K'⟩ := K v _ hQ
  obtain ⟨s₂, v', S, r⟩ := K' _ _ X' (N.app NL) rfl
  exact ⟨s₂, v', stp.trans (by subst hq hst'; exact S), r⟩
theorem g_callV (C : Cx p s m meth c Z own nm code ml ret) {y : MethodName} {ck sk : Nat} {Q : Option Value → Heap → Prop} {index W : Nat} {argsL : List Value} {y0 : MethodName} {Cl : String} {a : Addr} (d : decode code pc = .ok (.invokevirtual index, 3)) (w1 : (Cond.methodLink own index y0).before a0 Z = true) (w2 : (Cond.declares y0).before a0 Z = true) (w5 : (Cond.selects Cl y0 y).before a0 Z = true) (w6 : (Cond.instanceMethod y).before a0 Z = true) (hy : y0.cls ≠ "java/lang/invoke/MethodHandle" ∧ y0.cls ≠ "java/lang/invoke/VarHandle") (hnf : NotFace s y0)
    (E : Exa Z h a Cl) (M : BK l R p e below s args y 3 W (.ref a :: argsL).toArray h ck sk n0 Q) (hc : k + ck ≤ R.cells) (hs : n + sk ≤ R.slots) (hsz : Ls.size = ml) (hlen : ∀ sig, parseMethodDescriptor y0.desc = some sig → argsL.length = sig.parameters.length) (hst : st = argsL.reverse ++ .ref a :: rest) (hW : (rest.map fun v => v.category).sum = W) (hq : pc + 3 = q)
    (K : ∀ v h', Q v h' → ∃ st', st' = v.toList ++ rest ∧ Go p l e R s m args below meth c Ph n0 h' (k + ck) (n + sk) q Ls st') : Go p l e R s m args below meth c Ph n0 h k n pc Ls st := fun T locs X N eT => by
  have hZ := C.2.2.2.2.1
  obtain ⟨cq, kq, qa, qb, qc⟩ := isOf hZ eT E
  obtain ⟨v, vm1, ⟨T', L', k', n'⟩, -, X', ⟨L, ⟨hQ, NL⟩, l1, l2, l3⟩, stp⟩ := X.virtualBack C.1 (y := y0) (z := y) C.2.2.2.1 (mvT hZ w1) (mvT hZ w2) hnf (mvT hZ w5) (mvT hZ w6) hy M qa qc (g := mkF m pc Ls st) rfl (hsz.trans C.2.2.1.symm) (Steps.refl _) (argsL := argsL) (rest := rest) hlen hst (by show 2 * 0 + _ ≤ _; rw [hW]; omega) (hb C.2.1 d) (fun _ _ => ⟨rfl, eT, hc, hs⟩)
  dsimp only [Pt.U, Pt.locs, Pt.cells, Pt.slots] at X' l1 l2 l3 stp
  subst l1 l2 l3
  obtain ⟨st', hst', K'⟩ := K v _ hQ
  obtain ⟨s₂, v', S, r⟩ := K' _ _ X' (N.app NL) rfl
  exact ⟨s₂, v', stp.trans (by subst hq hst'; exact S), r⟩
theorem g_callP (C : Cx p s m meth c Z own nm code ml ret) {y : MethodName} {bytes : ByteArray} {maxL ck sk : Nat} {rt : Option FieldType} {Q : Option Value → Heap → Prop} {index W : Nat} {argsL : List Value} {Cl : String} {a : Addr} (d : decode code pc = .ok (.invokevirtual index, 3)) (w1 : (Cond.methodLink own index y).before a0 Z = true) (w2 : (Cond.instanceMethod y).before a0 Z = true) {kk : Nat} (wi : (Cond.instantiable y.cls kk).before a0 Z = true) (w4 : (Cond.code y bytes maxL rt).before a0 Z = true) (hy : y.cls ≠ "java/lang/invoke/MethodHandle" ∧ y.cls ≠ "java/lang/invoke/VarHandle") (hpr : s.PrivateAt y)
    (E : Exa Z h a Cl) (M : BK l R p e below s args y 3 W (.ref a :: argsL).toArray h ck sk n0 Q) (hc : k + ck ≤ R.cells) (hs : n + sk ≤ R.slots) (hsz : Ls.size = ml) (hlen : ∀ sig, parseMethodDescriptor y.desc = some sig → argsL.length = sig.parameters.length) (hst : st = argsL.reverse ++ .ref a :: rest) (hW : (rest.map fun v => v.category).sum = W) (hq : pc + 3 = q)
    (K : ∀ v h', Q v h' → ∃ st', st' = v.toList ++ rest ∧ Go p l e R s m args below meth c Ph n0 h' (k + ck) (n + sk) q Ls st') : Go p l e R s m args below meth c Ph n0 h k n pc Ls st := fun T locs X N eT => by
  have hZ := C.2.2.2.2.1
  obtain ⟨ce, hce, hob⟩ := E.cell
  obtain ⟨ci, ki, hci, hki, -, hni, -⟩ := Cond.instantiable_spec (mv (args := args) hZ wi)
  simp only [Bool.or_eq_false_iff] at hni
  have w5 : (Cond.selects y.cls y y).before args s = true := Jvm.Stand.selects_self_of_private hci hki hni.1 hpr (mvT hZ w2) hy
  obtain ⟨v, vm1, ⟨T', L', k', n'⟩, -, X', ⟨L, ⟨hQ, NL⟩, l1, l2, l3⟩, stp⟩ := X.privateBack C.1 (y := y) C.2.2.2.1 (mvT hZ w1) (mvT hZ w2) w5 hpr (mvT hZ w4) hy M (g := mkF m pc Ls st) rfl (hsz.trans C.2.2.1.symm) (Steps.refl _) (a := a) (cell := ce) (by rw [eT]; exact hce) hob (argsL := argsL) (rest := rest) hlen hst (by show 2 * 0 + _ ≤ _; rw [hW]; omega) (hb C.2.1 d) (fun _ _ => ⟨rfl, eT, hc, hs⟩)
  dsimp only [Pt.U, Pt.locs, Pt.cells, Pt.slots] at X' l1 l2 l3 stp
  subst l1 l2 l3
  obtain ⟨st', hst', K'⟩ := K v _ hQ
  obtain ⟨s₂, v', S, r⟩ := K' _ _ X' (N.app NL) rfl
  exact ⟨s₂, v', stp.trans (by subst hq hst'; exact S), r⟩
theorem g_callF (C : Cx p s m meth c Z own nm code ml ret) {y : MethodName} {ck sk : Nat} {Q : Option Value → Heap → Prop} {index W : Nat} {argsL : List Value} {xi : MethodName} {Cl : String} {a : Addr} {count : Nat} (d : decode code pc = .ok (.invokeinterface index count, 5)) (w1 : (Cond.methodLink own index xi).before a0 Z = true) (w2 : (Cond.declares xi).before a0 Z = true) (w3 : (Cond.interfaceMethod xi.cls xi.cls xi.name xi.desc).before a0 Z = true) (w5 : (Cond.selects Cl xi y).before a0 Z = true) (w6 : (Cond.instanceMethod y).before a0 Z = true) (w7 : (Cond.publicMethod y).before a0 Z = true) (w8 : (Cond.unhidden Cl xi.name xi.desc).before a0 Z = true) (w9 : (Cond.castable Cl xi.cls).before a0 Z = true) (hfa : ((Cond.interfaceMethod xi.cls xi.cls xi.name xi.desc).onTables && (Cond.interfaceMethod xi.cls xi.cls xi.name xi.desc).keepsFace) = true) (hy : xi.cls ≠ "java/lang/invoke/MethodHandle" ∧ xi.cls ≠ "java/lang/invoke/VarHandle")
    (E : Exa Z h a Cl) (M : BK l R p e below s args y 5 W (.ref a :: argsL).toArray h ck sk n0 Q) (hc : k + ck ≤ R.cells) (hs : n + sk ≤ R.slots) (hsz : Ls.size = ml) (hlen : ∀ sig, parseMethodDescriptor xi.desc = some sig → argsL.length = sig.parameters.length) (hst : st = argsL.reverse ++ .ref a :: rest) (hW : (rest.map fun v => v.category).sum = W) (hq : pc + 5 = q)
    (K : ∀ v h', Q v h' → ∃ st', st' = v.toList ++ rest ∧ Go p l e R s m args below meth c Ph n0 h' (k + ck) (n + sk) q Ls st') : Go p l e R s m args below meth c Ph n0 h k n pc Ls st := fun T locs X N eT => by
  have hZ := C.2.2.2.2.1
  obtain ⟨cq, kq, qa, qb, qc⟩ := isOf hZ eT E
  obtain ⟨v, vm1, ⟨T', L', k', n'⟩, -, X', ⟨L, ⟨hQ, NL⟩, l1, l2, l3⟩, stp⟩ := X.interfaceBack C.1 (xi := xi) (y := y) C.2.2.2.1 (mvT hZ w1) (mvT hZ w2) (mvT hZ w3 hfa) (mvT hZ w5) (mvT hZ w6) (mvT hZ w7) (mvT hZ w8) (mvT hZ w9) hy M qa qb qc (g := mkF m pc Ls st) rfl (hsz.trans C.2.2.1.symm) (Steps.refl _) (argsL := argsL) (rest := rest) hlen hst (by show 2 * 0 + _ ≤ _; rw [hW]; omega) (hb C.2.1 d) (fun _ _ => ⟨rfl, eT, hc, hs⟩)
  dsimp only [Pt.U, Pt.locs, Pt.cells, Pt.slots] at X' l1 l2 l3 stp
  subst l1 l2 l3
  obtain ⟨st', hst', K'⟩ := K v _ hQ
  obtain ⟨s₂, v', S, r⟩ := K' _ _ X' (N.app NL) rfl
  exact ⟨s₂, v', stp.trans (by subst hq hst'; exact S), r⟩
theorem nf_of {y : MethodName} {Cl : String} (C : Cx p s m meth c Z own nm code ml ret) (w : (Cond.selects Cl y y).before a0 Z = true) : NotFace s y := notFace_of_selects (args := #[]) (mvT C.2.2.2.2.1 w)
theorem priv_of {y : MethodName} (C : Cx p s m meth c Z own nm code ml ret) (w : (Cond.privateMethod y).before a0 Z = true) : s.PrivateAt y := Cond.privateMethod_at (args := #[]) (mvP C.2.2.2.2.1 w)
theorem Av.arv {a : Addr} {ty : FieldType} {N : Nat} {f : Nat → Value} {vs : List Value} {dv : Value} (A : Av Z h a ty N f) (hf : ∀ j, j < N → f j = vs.getD j dv) (hfit : ∀ j, j < N → fits ty (vs.getD j dv) = true) : ∃ kA, Arv Z h a kA ty (Int32.ofNat N) vs dv := by
  obtain ⟨c', A, r1, r2, r3⟩ := A
  have e : (Int32.ofNat N).toNatClampNeg = N := Int32.toNatClampNeg_ofNat_of_lt r2
  refine ⟨c'.cls, c', A, rfl, by rw [e]; exact r1, ?_, fun j hj => by rw [r3 j (r1 ▸ hj), hf j (r1 ▸ hj)], fun j hj => hfit j (r1 ▸ hj)⟩
  intro q
  have := Int32.lt_iff_toInt_lt.mp q
  rw [Int32.toInt_ofNat_of_lt r2] at this
  simp at this
  omega
theorem app_less {ws : List Cond} {c0 : Cond} {rm : Room} {y : MethodName} {pl : Platform} {sa : State} {ma : MethodId} {aa : Array Value} {ba : List Frame} (hf : sa.frames = .invoking ma aa :: ba) (hh : (head1 (c0 :: ws) rm).appliesLoose y pl sa = true) : (head1 [c0] rm).appliesLoose y pl sa = true := by
  obtain ⟨h1, h2, h3, h4, h5, h6, h7, h8⟩ := (Spec.appliesLoose_iff hf).mp hh
  refine (Spec.appliesLoose_iff hf).mpr ⟨h1, h2, h3, h4, h5, h6, h7, ?_⟩
  show (Cond.and c0 .tt).before aa sa = true
  rw [Cond.before_and, atoms_spec (ws := c0 :: ws) h8 c0 (List.mem_cons_self ..)]; rfl
theorem own_cat {v : Value} (hr : v.isRef = true) : v.category = 1 := by rcases ref_cases hr with rfl | ⟨a, rfl⟩ <;> rfl
theorem own_nar {v : Value} {cn : String} (hr : v.isRef = true) : narrow (.object cn) v = v := by rcases ref_cases hr with rfl | ⟨a, rfl⟩ <;> rfl
theorem own_fit {v : Value} {cn : String} (hr : v.isRef = true) : fits (.object cn) v = true := by rcases ref_cases hr with rfl | ⟨a, rfl⟩ <;> rfl
theorem Ext.keep {h0 h h' : Heap} {ws : List Addr} (E : Ext h0 h) (K : Keep h h' ws) (q : ∀ x ∈ ws, h0.size ≤ x) : Ext h0 h' := ⟨Nat.le_trans E.1 K.1, fun a c hc => K.2.1 a c (E.2 a c hc) fun hm => Nat.not_lt.mpr (q a hm) (Array.getElem?_eq_some_iff.mp hc).1⟩
theorem Ext.wr {h0 h h' : Heap} {a : Addr} {sl : Nat} {v : Value} (E : Ext h0 h) (W : Wr h h' a sl v) (q : h0.size ≤ a) : Ext h0 h' := Ext.keep E (Keep.of_wr W) fun x hx => by cases List.mem_singleton.mp hx; exact q
theorem Ext.tr {h0 h h' : Heap} (E : Ext h0 h) (E' : Ext h h') : Ext h0 h' := ⟨Nat.le_trans E.1 E'.1, fun a c hc => E'.2 a c (E.2 a c hc)⟩
theorem Ext.rfl' (h : Heap) : Ext h h := ⟨Nat.le_refl _, fun _ _ q => q⟩
theorem Ext.kp {h h' : Heap} (E : Ext h h') (ws : List Addr) : Keep h h' ws := (Keep.refl h ws).ext E
theorem Av.fitc {a : Addr} {ty : FieldType} {N : Nat} {f : Nat → Value} (A : Av Z h a ty N f) (hf : ∀ j, j < N → fits ty (f j) = true) : ∃ cl, Arr Z h a cl ty ∧ cl.slots.size = N ∧ N < 2 ^ 31 ∧ (∀ j, j < N → cl.slots[j]? = some (f j)) ∧ FitC Z cl := by
  obtain ⟨cl, A, r1, r2, r3⟩ := A
  refine ⟨cl, A, r1, r2, r3, fun i v hv => ?_⟩
  obtain ⟨hi, -⟩ := Array.getElem?_eq_some_iff.mp hv
  obtain ⟨hs, kk, hk, comp, hkind⟩ := A.2.1
  have e1 := r3 i (r1 ▸ hi)
  rw [hv] at e1
  cases e1
  simp [State.fitsSlot, State.slotType?, hk, hkind, hf i (r1 ▸ hi)]
theorem g_newarrayE (C : Cx p s m meth c Z own nm code ml ret) {aty : ArrayType} {N' : Int32} {cap : Nat} {ad : String} (d : decode code pc = .ok (.newarray aty, 2)) (w : (Cond.arrayClass (newarray.typeOf aty)).before a0 Z = true) (hn : ¬ N' < 0) (hcap : N'.toNatClampNeg ≤ cap) (hbg : cap * 8 ≤ 536870912) (hc : k + 1 ≤ R.cells) (hl : n + cap ≤ R.slots) (had : "[" ++ (newarray.typeOf aty).toString = ad) (hq : pc + 2 = q)
    (K : ∀ (a : Addr) (h' : Heap) (cA : ClassId), a = h.size → Ext h h' → Arr Z h' a (newA cA (newarray.typeOf aty) N') (newarray.typeOf aty) → Exa Z h' a ad → Go p l e R s m args below meth c Ph n0 h' (k + 1) (n + cap) q Ls (.ref a :: st)) : Go p l e R s m args below meth c Ph n0 h k n pc Ls (.int N' :: st) := fun T locs X N eT => by
  obtain ⟨T', h', cA, X', e', E, A, EA, stp⟩ := newPE X C.1 C.2.2.2.2.1 w eT (g := mkF m pc Ls (.int N' :: st)) rfl (hb C.2.1 d) rfl hn hcap hbg hc hl had
  obtain ⟨s₂, v, S, r⟩ := K _ h' cA rfl E A EA T' locs X' N e'
  exact ⟨s₂, v, stp _ (by subst hq; exact S), r⟩
theorem g_clone (C : Cx p s m meth c Z own nm code ml ret) {ad : String} {index W cap N : Nat} {a : Addr} {ty : FieldType} {f : Nat → Value} (d : decode code pc = .ok (.invokevirtual index, 3)) (w1 : (Cond.methodLink own index ⟨ad, "clone", "()Ljava/lang/Object;"⟩).before a0 Z = true) (w2 : (Cond.sameMethod ad "java/lang/Object" "clone" "()Ljava/lang/Object;").before a0 Z = true) (w3 : (Cond.native ⟨"java/lang/Object", "clone", "()Ljava/lang/Object;"⟩).before a0 Z = true)
    (w4 : (Cond.instanceMethod ⟨"java/lang/Object", "clone", "()Ljava/lang/Object;"⟩).before a0 Z = true) (w5 : (Cond.selects ad ⟨ad, "clone", "()Ljava/lang/Object;"⟩ ⟨"java/lang/Object", "clone", "()Ljava/lang/Object;"⟩).before a0 Z = true) (w6 : (Cond.castable ad "java/lang/Cloneable").before a0 Z = true)
    (A : Av Z h a ty N f) (hfit : ∀ j, j < N → fits ty (f j) = true) (E : Exa Z h a ad) (hsz : Ls.size = ml) (hf : 1 ≤ R.frames) (hW : (st.map fun v => v.category).sum = W) (hl : W + 14 ≤ R.locals) (hcap : N ≤ cap) (hc : k + 1 ≤ R.cells) (hsl : n + cap ≤ R.slots) (hq : pc + 3 = q)
    (K : ∀ (b : Addr) (h' : Heap), b = h.size → Ext h h' → Av Z h' b ty N f → Exa Z h' b ad → Go p l e R s m args below meth c Ph n0 h' (k + 1) (n + cap) q Ls (.ref b :: st)) : Go p l e R s m args below meth c Ph n0 h k n pc Ls (.ref a :: st) := fun T locs X N' eT => by
  obtain ⟨cl, A, r1, r2, r3, FC⟩ := A.fitc hfit
  obtain ⟨T', h', X', e', E', A', EA, stp⟩ := cloneA X C.1 C.2.2.2.2.1 C.2.2.2.1 w1 w2 w3 w4 w5 w6 eT A E FC (g := mkF m pc Ls (.ref a :: st)) rfl (hsz.trans C.2.2.1.symm) rfl (hb C.2.1 d) hf (W := W) (cap := cap) (by show 2 * 0 + _ ≤ _; rw [hW]; omega) hl (by rw [r1]; exact hcap) hc hsl
  obtain ⟨s₂, v, S, r⟩ := K _ h' rfl E' ⟨_, A', r1, r2, r3⟩ EA T' locs X' N' e'
  exact ⟨s₂, v, stp _ (by subst hq; exact S), r⟩
theorem Av.rng {a : Addr} {ty : FieldType} {N : Nat} {f : Nat → Value} (A : Av Z h a ty N f) (hf : ∀ j, j < N → fits ty (f j) = true) (dv : Value) : ∃ kA, Arv Z h a kA ty (Int32.ofNat N) ((List.range N).map f) dv :=
  A.arv (fun j hj => by simp [List.getD, hj]) (fun j hj => by simpa [List.getD, hj] using hf j hj)
theorem Av.of_arv {a : Addr} {ty : FieldType} {N : Nat} {kA : ClassId} {z : Int32} {vs : List Value} {dv : Value} (A : Arv Z h a kA ty z vs dv) (hz : z.toNatClampNeg = N) : Av Z h a ty N (fun j => vs.getD j dv) := by
  obtain ⟨c', A, -, r1, r2, H, -⟩ := A
  rw [hz] at r1
  exact ⟨c', A, r1, by rw [← hz]; exact (back32 r2).2, fun j hj => H j (by rw [r1]; exact hj)⟩
theorem nn32 {i : Nat} (hi : i < 2 ^ 31) : ¬ Int32.ofNat i < 0 := by
  rw [Int32.lt_iff_toInt_lt, Int32.toInt_ofNat_of_lt hi]; have e0 : (0 : Int32).toInt = 0 := rfl; omega
theorem g_acopy (C : Cx p s m meth c Z own nm code ml ret) {index W N M sp dp nn : Nat} {a b : Addr} {ty : FieldType} {f f' : Nat → Value} {i1 i2 i3 : Int32} (d : decode code pc = .ok (.invokestatic index, 3)) (w1 : (Cond.methodLink own index Jvm.Stand.acN).before a0 Z = true) (w2 : (Cond.native Jvm.Stand.acN).before a0 Z = true) (w3 : (Cond.static Jvm.Stand.acN).before a0 Z = true) (w4 : (Cond.initialized "java/lang/System").before a0 Z = true)
    (A : Av Z h a ty N f) (B : Av Z h b ty M f') (hrk : refKind ty = false) (hfa : ∀ j, j < N → fits ty (f j) = true) (hfb : ∀ j, j < M → fits ty (f' j) = true) (e1 : i1 = Int32.ofNat sp) (e2 : i2 = Int32.ofNat dp) (e3 : i3 = Int32.ofNat nn) (h1 : sp + nn ≤ N) (h2 : dp + nn ≤ M) (ge : n0 ≤ b) (hsz : Ls.size = ml) (hf : 1 ≤ R.frames) (hW : (st.map fun v => v.category).sum = W) (hl : W + (nativeFrameWords "java/lang/System" "arraycopy" 5 + 11) ≤ R.locals) (hq : pc + 3 = q)
    (K : ∀ (h' : Heap), Keep h h' [b] → Av Z h' b ty M (fun j => if dp ≤ j ∧ j < dp + nn then f (sp + (j - dp)) else f' j) → Go p l e R s m args below meth c Ph n0 h' k n q Ls st) : Go p l e R s m args below meth c Ph n0 h k n pc Ls (.int i3 :: .int i2 :: .ref b :: .int i1 :: .ref a :: st) := fun T locs X N' eT => by
  have hN : N < 2 ^ 31 := by obtain ⟨_, _, _, r, _⟩ := A; exact r
  have hM : M < 2 ^ 31 := by obtain ⟨_, _, _, r, _⟩ := B; exact r
  obtain ⟨kA, A1⟩ := A.rng hfa .null
  obtain ⟨kB, B1⟩ := B.rng hfb .null
  have t1 : (Int32.ofNat sp).toNatClampNeg = sp := Int32.toNatClampNeg_ofNat_of_lt (by omega)
  have t2 : (Int32.ofNat dp).toNatClampNeg = dp := Int32.toNatClampNeg_ofNat_of_lt (by omega)
  have t3 : (Int32.ofNat nn).toNatClampNeg = nn := Int32.toNatClampNeg_ofNat_of_lt (by omega)
  have t4 : (Int32.ofNat N).toNatClampNeg = N := Int32.toNatClampNeg_ofNat_of_lt hN
  have t5 : (Int32.ofNat M).toNatClampNeg = M := Int32.toNatClampNeg_ofNat_of_lt hM
  subst e1 e2 e3
  obtain ⟨T', h', L, X', e', N2, Kp, Bv, stp⟩ := cpA X C.1 C.2.2.2.2.1 C.2.2.2.1 w1 w2 w3 w4 eT A1 B1 (Or.inl ⟨rfl, hrk⟩) (nn32 (by omega)) (nn32 (by omega)) (nn32 (by omega)) (by rw [t1, t3, t4]; exact h1) (by rw [t2, t3, t5]; exact h2) rfl (by rw [t2, t3]; simpa using h2) N' ge (g := mkF m pc Ls (.int (Int32.ofNat nn) :: .int (Int32.ofNat dp) :: .ref b :: .int (Int32.ofNat sp) :: .ref a :: st)) rfl (hsz.trans C.2.2.1.symm) rfl (hb C.2.1 d) hf (W := W) (by show 2 * 0 + _ ≤ _; rw [hW]; omega) hl
  have B2 := (Av.of_arv Bv t5).congr (g := fun j => if dp ≤ j ∧ j < dp + nn then f (sp + (j - dp)) else f' j) (fun j hj => by
    rw [t1, t2, t3]
    simp only [List.getD_eq_getElem?_getD]
    by_cases c1 : j < dp
    · rw [if_neg (by omega), List.append_assoc, List.getElem?_append_left (by simp; omega), List.getElem?_take_of_lt c1]
      simp [hj]
    · by_cases c2 : j < dp + nn
      · rw [if_pos ⟨by omega, c2⟩, List.getElem?_append_left (by simp; omega), List.getElem?_append_right (by simp; omega)]
        simp [show min dp M = dp by omega, show j - dp < nn by omega, show sp + (j - dp) < N by omega]
      · rw [if_neg (by omega), List.getElem?_append_right (by simp; omega)]
        simp [show min dp M = dp by omega, show dp + nn + (j - (dp + nn)) = j by omega, hj])
  obtain ⟨s₂, v, S, r⟩ := K h' Kp B2 T' L X' N2 e'
  exact ⟨s₂, v, stp _ (by subst hq; exact S), r⟩
end GoRules
/-! ## The wide walk: literals may be loaded (the tables' interned strings grow); the Stand is over s0 with the tables of the moment -/
section GoWide
variable {p : Program} {l : Launch} {e : Env} {R : Room} {s0 : State} {vm0 : Vm} {m : MethodId} {args : Array Value} {below : List Frame} {meth : Method} {c : Code} {Ph : State → Option Value → Prop} {n0 : Nat} {h : Heap} {k n : Nat} {pc q : Nat} {Ls : Array Slot} {st rest : List Value} {Z : State} {a0 : Array Value} {own nm : String} {code : ByteArray} {ml : Nat} {ret : Option FieldType}
def Sn (s0 : State) (vm0 : Vm) (h : Heap) : Prop := ∃ k0, s0.Since vm0 k0 ∧ k0 ≤ h.size
theorem Sn.mono {h' : Heap} (S : Sn s0 vm0 h) (q : h.size ≤ h'.size) : Sn s0 vm0 h' := by obtain ⟨k0, h1, h2⟩ := S; exact ⟨k0, h1, Nat.le_trans h2 q⟩
theorem IB.warm {vm1 : Vm} {Ts : List String} (I : IB Z vm0 Ts) (hW : (s0.setVm vm0).WarmedH vm1) : IB Z vm1 Ts := by
  obtain ⟨more, e, hm⟩ := I
  exact ⟨more, (hW.interned_eq).trans e, hm⟩
def CtrW (l : Launch) (Z : State) (y : MethodName) (bytes : ByteArray) (maxL : Nat) (rt : Option FieldType) (rm : Room) (as' : Array Value) (hs : Heap) (nf : Nat) (P : Vm → Prop) (Q : Option Value → Vm → Heap → Prop) : Prop :=
  MetFree l y (head1 [Cond.code y bytes maxL rt] rm) (fun a U => a = as' ∧ Z.Warmed39 U.vm ∧ U.heap = hs ∧ P U.vm) (fun _ _ _ _ _ => True) (fun _ U o U' => ∃ v L, o = .returned v ∧ (Q v U'.vm U'.heap ∧ Fr nf L) ∧ ReturnedEndW U o U' L rm.cells rm.slots)
def FinW (s0 : State) (below : List Frame) (rm : Room) (nf : Nat) (Q : Option Value → Vm → Heap → Prop) : State → Option Value → Prop :=
  fun s₂ v => s₂.status = .running ∧ Ended s₂ below (.returned v) ∧ ∃ L, (Q v s₂.vm s₂.heap ∧ Fr nf L) ∧ ReturnedEndW s0 (.returned v) s₂ L rm.cells rm.slots
theorem CtrW.of {l : Launch} {Z : State} {y : MethodName} {bytes : ByteArray} {maxL : Nat} {rt : Option FieldType} {rm : Room} {as' : Array Value} {hs : Heap} {nf : Nat} {P : Vm → Prop} {Q : Option Value → Vm → Heap → Prop} {n1 : Nat} (Ls : Array Slot) (hp : plainFor y = true) (hE : ∀ m, entryFrame m as' maxL = mkF m 0 Ls [])
    (B : ∀ (p : Program) (e : Env) (s0 : State) (vm0 : Vm) (m : MethodId) (below : List Frame) (meth : Method) (c : Code), Cx p (s0.setVm vm0) m meth c Z y.cls y.name bytes maxL rt → s0.heap = hs → P vm0 → Sn s0 vm0 hs → Go p l e rm (s0.setVm vm0) m as' below meth c (FinW s0 below rm nf Q) n1 hs 0 0 0 Ls []) : CtrW l Z y bytes maxL rt rm as' hs nf P Q := by
  refine MetFree.of_bodySF hp hisR ?_
  intro p e s m args below meth c s₁ Bd hml0 hP hK
  obtain ⟨rfl, hZ, hh, hPv⟩ := hP
  have X0 : Stand p l e rm s m _ below meth c s₁ [] 0 0 := Stand.of_body Bd
  have e0 : s₁.heap = hs := by rw [← hh, Bd.state]; rfl
  have S0 : Sn s s.vm hs := ⟨s.heap.size, (State.WarmedH.refl s).since _, by rw [hh]; exact Nat.le_refl _⟩
  obtain ⟨s₂, v, S, r1, r2, L, r3, r4⟩ := B p e s s.vm m below meth c ⟨Bd.exec, Bd.bytes, hml0, findClass_of_methodNamed Bd.named, hZ, (name_of_methodNamed Bd.named Bd.method).1, Bd.returns, Bd.notSynchronized⟩ hh hPv S0 s₁ [] X0 (Fr.nil _) e0
  exact ⟨s₂, _, castTop (hE m) S, r1, r2, v, L, rfl, r3, r4⟩
theorem finW_of {T : State} {locs : List Loc} {rm : Room} {nf : Nat} {Q : Option Value → Vm → Heap → Prop} {v : Option Value} {st' : List Value} (C : Cx p (s0.setVm vm0) m meth c Z own nm code ml ret) (Sw : Sn s0 vm0 h) (X : Stand p l e R (s0.setVm vm0) m args below meth c T locs k n) (N : Fr n0 locs) (eT : T.heap = h) (hv : ret = none → v = none) (hn : nf ≤ n0) (hk : k ≤ rm.cells) (hl : n ≤ rm.slots) (hQ : ∀ vm1, (s0.setVm vm0).WarmedH vm1 → Q v vm1 h)
    (H : ∀ fs, (∀ (f : JFrame) (acts : List Action), f.method = m → f.locked = none → f.entered = [] → (doReturn e (T.setTop f) acts v).1 = T.setFrames fs) → Steps p.tables e below (T.setTop (mkF m pc Ls st')) (T.setFrames fs)) :
    ∃ s₂ v, Steps p.tables e below (T.setTop (mkF m pc Ls st')) s₂ ∧ FinW s0 below rm nf Q s₂ v := by
  obtain ⟨k0, hS, hk0⟩ := Sw
  obtain ⟨fs, hr, hrun, hended, h1, h2, h3, hsame⟩ := X.leaveW (v := v) hS (by rw [eT]; exact hk0) (fun hh => hv (C.2.2.2.2.2.2.1.symm.trans hh)) C.2.2.2.2.2.2.2
  exact ⟨_, v, H fs hr, hrun, hended, locs, ⟨by rw [show (T.setFrames fs).heap = h from eT]; exact hQ _ X.warmed, fun y hy => Nat.le_trans hn (N y hy)⟩, h1, h2, h3, hsame.mono hk hl⟩
theorem g_returnW {rm : Room} {nf : Nat} {Q : Option Value → Vm → Heap → Prop} (C : Cx p (s0.setVm vm0) m meth c Z own nm code ml none) (Sw : Sn s0 vm0 h) (d : decode code pc = .ok (.return_, 1)) (hn : nf ≤ n0) (hk : k ≤ rm.cells) (hl : n ≤ rm.slots) (hQ : ∀ vm1, (s0.setVm vm0).WarmedH vm1 → Q none vm1 h) : Go p l e R (s0.setVm vm0) m args below meth c (FinW s0 below rm nf Q) n0 h k n pc Ls [] :=
  fun T locs X N eT => finW_of C Sw X N eT (fun _ => rfl) hn hk hl hQ fun fs hr => X.returnOut C.1 C.2.2.2.2.2.2.1 (hb C.2.1 d) hr
theorem g_ireturnW {rm : Room} {nf : Nat} {Q : Option Value → Vm → Heap → Prop} {x : Int32} (C : Cx p (s0.setVm vm0) m meth c Z own nm code ml (some .int)) (Sw : Sn s0 vm0 h) (d : decode code pc = .ok (.ireturn, 1)) (hn : nf ≤ n0) (hk : k ≤ rm.cells) (hl : n ≤ rm.slots) (hQ : ∀ vm1, (s0.setVm vm0).WarmedH vm1 → Q (some (.int x)) vm1 h) : Go p l e R (s0.setVm vm0) m args below meth c (FinW s0 below rm nf Q) n0 h k n pc Ls (.int x :: st) :=
  fun T locs X N eT => finW_of C Sw X N eT (fun hh => nomatch hh) hn hk hl hQ fun fs hr => retI X C.1 C.2.2.2.2.2.2.1 (hb C.2.1 d) hr
theorem g_nreturnW {rm : Room} {nf : Nat} {Q : Option Value → Vm → Heap → Prop} {x z : Int32} {t : FieldType} (C : Cx p (s0.setVm vm0) m meth c Z own nm code ml (some t)) (Sw : Sn s0 vm0 h) (d : decode code pc = .ok (.ireturn, 1)) (ht : t = .boolean ∨ t = .byte ∨ t = .char ∨ t = .short) (hz : nar t x = z) (hn : nf ≤ n0) (hk : k ≤ rm.cells) (hl : n ≤ rm.slots) (hQ : ∀ vm1, (s0.setVm vm0).WarmedH vm1 → Q (some (.int z)) vm1 h) : Go p l e R (s0.setVm vm0) m args below meth c (FinW s0 below rm nf Q) n0 h k n pc Ls (.int x :: st) :=
  fun T locs X N eT => finW_of (v := some (.int z)) C Sw X N eT (fun hh => nomatch hh) hn hk hl hQ fun fs hr => retN X C.1 C.2.2.2.2.2.2.1 ht (hb C.2.1 d) (by rw [hz]; exact hr)
theorem g_areturnW {rm : Room} {nf : Nat} {Q : Option Value → Vm → Heap → Prop} {x : Value} {t : FieldType} (C : Cx p (s0.setVm vm0) m meth c Z own nm code ml (some t)) (Sw : Sn s0 vm0 h) (d : decode code pc = .ok (.areturn, 1)) (ht : t.isReference = true) (hx : x.isRef = true) (hn : nf ≤ n0) (hk : k ≤ rm.cells) (hl : n ≤ rm.slots) (hQ : ∀ vm1, (s0.setVm vm0).WarmedH vm1 → Q (some x) vm1 h) : Go p l e R (s0.setVm vm0) m args below meth c (FinW s0 below rm nf Q) n0 h k n pc Ls (x :: st) :=
  fun T locs X N eT => finW_of C Sw X N eT (fun hh => nomatch hh) hn hk hl hQ fun fs hr => retOut X C.1 C.2.2.2.2.2.2.1 (by rcases ref_cases hx with rfl | ⟨a, rfl⟩ <;> cases t <;> first | rfl | cases ht) (Or.inr (Or.inr (Or.inr (Or.inr ⟨rfl, ht, hx⟩)))) (hb C.2.1 d) hr
theorem g_ldcS (C : Cx p (s0.setVm vm0) m meth c Z own nm code ml ret) {index : Nat} {text : String} {Ts : List String} {vs : List Value} {z : Int32} {nn : Nat} (Sw : Sn s0 vm0 h) (d : decode code pc = .ok (.ldc index, 2)) (w : (Cond.stringLink own index text).before a0 Z = true) (wS : ∀ a ∈ Bundle.stringAtoms, a.before a0 Z = true) (hkeep : ∀ (b : Addr) (cl : Cell), Z.heap[b]? = some cl → s0.heap[b]? = some cl) (hn0 : s0.heap.size ≤ n0) (I : IB Z vm0 Ts) (hnot : text ∉ Ts) (hh : Jvm.Lit.constHeld Z own index) (hcw : Jvm.Lit.compactW.before a0 Z = true)
    (ht : (∀ c ∈ text.toList, c.toNat < 256) ∧ text.toList.map (fun c => Value.int (Jvm.Lit.byteI c.toNat.toUInt16)) = vs) (hz : ¬ z < 0) (hzl : z.toNatClampNeg = vs.length) (hn : 4 * text.toList.length ≤ nn) (hbig : nn ≤ 536870912) (hc : k + 2 ≤ R.cells) (hl : n + (nn + 4) ≤ R.slots) (hq : pc + 2 = q)
    (K : ∀ (a : Addr) (vm1 : Vm) (h' : Heap) (b : Addr) (kb : ClassId), Ext h h' → Cx p (s0.setVm vm1) m meth c Z own nm code ml ret → Sn s0 vm1 h' → IB Z vm1 (text :: Ts) → Lit (s0.setVm vm1) own index a → Exa Z h' a "java/lang/String" → Fld Z h' a "java/lang/String" "coder" "B" (.int 0) → Fld Z h' a "java/lang/String" "value" "[B" (.ref b) → Arv Z h' b kb .byte z vs (.int 0) → Go p l e R (s0.setVm vm1) m args below meth c Ph n0 h' (k + 2) (n + (nn + 4)) q Ls (.ref a :: st)) : Go p l e R (s0.setVm vm0) m args below meth c Ph n0 h k n pc Ls st := fun T locs X N eT => by
  obtain ⟨k0, hS, hk0⟩ := Sw
  obtain ⟨a, T', h', k1, b, kb, X', e', E, hS', hk1, hZ', hown', E1, F1, F2, A1, -, -, I', L', stp⟩ := ldcSVL X C.1 C.2.2.2.2.1 C.2.2.2.1 w wS eT hS hk0 (fun y hy => Nat.le_trans hn0 (N y hy)) hkeep I hnot hh hcw ht hz hzl (g := mkF m pc Ls st) rfl (hb C.2.1 d) hn hbig hc hl
  obtain ⟨s₂, v, S, r⟩ := K a T'.vm h' b kb E ⟨C.1, C.2.1, C.2.2.1, hown', hZ', C.2.2.2.2.2⟩ ⟨k1, hS', hk1⟩ I' L' E1 F1 F2 A1 T' locs X' N e'
  exact ⟨s₂, v, stp _ (by subst hq; exact S), r⟩
theorem g_ldcA (C : Cx p (s0.setVm vm0) m meth c Z own nm code ml ret) {index : Nat} {text : String} {a : Addr} (d : decode code pc = .ok (.ldc index, 2)) (w : (Cond.stringLink own index text).before a0 Z = true) (Lt : Lit (s0.setVm vm0) own index a) (hq : pc + 2 = q) (K : Go p l e R (s0.setVm vm0) m args below meth c Ph n0 h k n q Ls (.ref a :: st)) : Go p l e R (s0.setVm vm0) m args below meth c Ph n0 h k n pc Ls st := fun T locs X N eT => by
  obtain ⟨s₂, v, S, r⟩ := K T locs X N eT
  exact ⟨s₂, v, ldcAgain X C.1 C.2.2.2.2.1 C.2.2.2.1 w Lt (g := mkF m pc Ls st) rfl (hb C.2.1 d) _ (by subst hq; exact S), r⟩
theorem backOfW {s : State} {y : MethodName} {bytes : ByteArray} {maxL : Nat} {rt : Option FieldType} {rm : Room} {len W : Nat} {as' : Array Value} {P : Vm → Prop} {Q : Option Value → Vm → Heap → Prop} {nf : Nat}
    (hM : CtrW l Z y bytes maxL rt rm as' h nf P Q) (hZ : Z.Warmed39 s.vm) (wc : (Cond.code y bytes maxL rt).before a0 Z = true) (wz : (Cond.initialized y.cls).before a0 Z = true) (hf : rm.frames + 1 ≤ R.frames) (hl : W + (maxL + 11) + rm.locals ≤ R.locals) :
    BackS l R p e below s args y len W (fun A a => a = as' ∧ A.U.heap = h ∧ P A.U.vm ∧ A.cells + rm.cells ≤ R.cells ∧ A.slots + rm.slots ≤ R.slots)
      (fun A _ v B => ∃ L, (Q v B.U.vm B.U.heap ∧ Fr nf L) ∧ B.locs = A.locs ++ L ∧ B.cells = A.cells + rm.cells ∧ B.slots = A.slots + rm.slots) :=
  BackS.of_freeW (bytes := bytes) (maxL := maxL) (ret := rt) (E := fun _ _ o t L k n => k = rm.cells ∧ n = rm.slots ∧ ∃ v, o = .returned v ∧ (Q v t.vm t.heap ∧ Fr nf L)) hM hf hl
    (fun m meth c A a Y hp => have hU : Z.Warmed39 A.U.vm := wtrans hZ Y.warmed
      ⟨by show (Cond.and _ .tt).before a A.U = true; rw [Cond.before_and, mv hU wc]; rfl, mv hU wc, mv hU wz, hp.2.2.2.1, hp.2.2.2.2⟩)
    (fun m meth c A a g mk Y hp => ⟨hp.1, wtrans hZ Y.warmed, hp.2.1, hp.2.2.1⟩) (fun _ _ _ _ _ _ _ _ _ => trivial)
    (fun _ _ _ _ ⟨v, L, h1, h2, h3⟩ => ⟨L, _, _, h3, rfl, rfl, v, h1, h2⟩)
    (fun m meth c A a g mk v t L k n Y hp _ _ ⟨e1, e2, v', e3, e4⟩ => by cases e3; subst e1 e2; exact ⟨L, e4, rfl, rfl, rfl⟩)
theorem g_callSW (C : Cx p (s0.setVm vm0) m meth c Z own nm code ml ret) {y : MethodName} {bytes : ByteArray} {maxL : Nat} {rt : Option FieldType} {rm : Room} {P : Vm → Prop} {Q : Option Value → Vm → Heap → Prop} {index W : Nat} {argsL : List Value} (Sw : Sn s0 vm0 h) (d : decode code pc = .ok (.invokestatic index, 3)) (w1 : (Cond.methodLink own index y).before a0 Z = true) (w2 : (Cond.static y).before a0 Z = true) (w3 : (Cond.initialized y.cls).before a0 Z = true) (w4 : (Cond.code y bytes maxL rt).before a0 Z = true) (hy : y.cls ≠ "java/lang/invoke/MethodHandle" ∧ y.cls ≠ "java/lang/invoke/VarHandle")
    (M : CtrW l Z y bytes maxL rt rm argsL.toArray h n0 P Q) (hf : rm.frames + 1 ≤ R.frames) (hl : W + (maxL + 11) + rm.locals ≤ R.locals) (hc : k + rm.cells ≤ R.cells) (hs : n + rm.slots ≤ R.slots) (hsz : Ls.size = ml) (hlen : ∀ sig, parseMethodDescriptor y.desc = some sig → argsL.length = sig.parameters.length) (hst : st = argsL.reverse ++ rest) (hW : (rest.map fun v => v.category).sum = W) (hq : pc + 3 = q)
    (hP : ∀ vm1, (s0.setVm vm0).WarmedH vm1 → P vm1) (K : ∀ v vm1 h', Q v vm1 h' → Cx p (s0.setVm vm1) m meth c Z own nm code ml ret → Sn s0 vm1 h' → (s0.setVm vm0).Warmed39 vm1 → ∃ st', st' = v.toList ++ rest ∧ Go p l e R (s0.setVm vm1) m args below meth c Ph n0 h' (k + rm.cells) (n + rm.slots) q Ls st') : Go p l e R (s0.setVm vm0) m args below meth c Ph n0 h k n pc Ls st := fun T locs X N eT => by
  have hZ := C.2.2.2.2.1
  obtain ⟨v, vm1, ⟨T', L', k', n'⟩, -, X', hS1, hle, ⟨L, ⟨hQ, NL⟩, l1, l2, l3⟩, stp⟩ := callSS X C.1 (y := y) C.2.2.2.1 (mvT hZ w1) (mvT hZ w2) (mvT hZ w3) (mvT hZ w4) hy (backOfW (W := W) M hZ w4 w3 hf hl) (g := mkF m pc Ls st) rfl (hsz.trans C.2.2.1.symm) (argsL := argsL) (rest := rest) hlen hst (by show 2 * 0 + _ ≤ _; rw [hW]; omega) (hb C.2.1 d) (fun vm1 hW1 => ⟨rfl, eT, hP vm1 hW1, hc, hs⟩)
  dsimp only [Pt.U, Pt.locs, Pt.cells, Pt.slots] at X' hS1 hle l1 l2 l3 stp
  subst l1 l2 l3
  obtain ⟨k0, hS, hk0⟩ := Sw
  have hZ1 : Z.Warmed39 T'.vm := State.Warmed39.trans (t := s0.setVm vm0) hZ hS1.1
  obtain ⟨st', hst', K'⟩ := K v _ _ hQ ⟨C.1, C.2.1, C.2.2.1, by rw [show (s0.setVm T'.vm).vm = T'.vm from rfl, hS1.1.alike.findClass]; exact C.2.2.2.1, hZ1, C.2.2.2.2.2⟩ ⟨_, foldS (T := T) hS (by rw [eT]; exact hk0) hS1 hle, Nat.le_refl _⟩ hS1.1
  obtain ⟨s₂, v', S, r⟩ := K' _ _ X' (N.app NL) rfl
  exact ⟨s₂, v', stp.trans (by subst hq hst'; exact S), r⟩
theorem g_callIW (C : Cx p (s0.setVm vm0) m meth c Z own nm code ml ret) {y : MethodName} {bytes : ByteArray} {maxL : Nat} {rm : Room} {P : Vm → Prop} {Q : Option Value → Vm → Heap → Prop} {index W : Nat} {argsL : List Value} {a : Addr} (Sw : Sn s0 vm0 h) (d : decode code pc = .ok (.invokespecial index, 3)) (hy1 : y.name = "<init>") (w1 : (Cond.methodLink own index y).before a0 Z = true) (w2 : (Cond.instanceMethod y).before a0 Z = true) (w3 : (Cond.initialized y.cls).before a0 Z = true) (w4 : (Cond.code y bytes maxL none).before a0 Z = true) (hy : y.cls ≠ "java/lang/invoke/MethodHandle" ∧ y.cls ≠ "java/lang/invoke/VarHandle")
    (M : CtrW l Z y bytes maxL none rm (.ref a :: argsL).toArray h n0 P Q) (hf : rm.frames + 1 ≤ R.frames) (hl : W + (maxL + 11) + rm.locals ≤ R.locals) (hc : k + rm.cells ≤ R.cells) (hs : n + rm.slots ≤ R.slots) (hsz : Ls.size = ml) (hlen : ∀ sig, parseMethodDescriptor y.desc = some sig → argsL.length = sig.parameters.length) (hst : st = argsL.reverse ++ .ref a :: rest) (hW : (rest.map fun v => v.category).sum = W) (hq : pc + 3 = q)
    (hP : ∀ vm1, (s0.setVm vm0).WarmedH vm1 → P vm1) (K : ∀ v vm1 h', Q v vm1 h' → Cx p (s0.setVm vm1) m meth c Z own nm code ml ret → Sn s0 vm1 h' → (s0.setVm vm0).Warmed39 vm1 → ∃ st', st' = v.toList ++ rest ∧ Go p l e R (s0.setVm vm1) m args below meth c Ph n0 h' (k + rm.cells) (n + rm.slots) q Ls st') : Go p l e R (s0.setVm vm0) m args below meth c Ph n0 h k n pc Ls st := fun T locs X N eT => by
  have hZ := C.2.2.2.2.1
  obtain ⟨v, vm1, ⟨T', L', k', n'⟩, -, X', hS1, hle, ⟨L, ⟨hQ, NL⟩, l1, l2, l3⟩, stp⟩ := X.specialBackS C.1 (y := y) hy1 C.2.2.2.1 (mvT hZ w1) (mvT hZ w2) (mvT hZ w4) hy (backOfW (W := W) M hZ w4 w3 hf hl) (g := mkF m pc Ls st) rfl (hsz.trans C.2.2.1.symm) (Steps.refl _) (a := a) (argsL := argsL) (rest := rest) hlen hst (by show 2 * 0 + _ ≤ _; rw [hW]; omega) (hb C.2.1 d) (fun vm1 hW1 => ⟨rfl, eT, hP vm1 hW1, hc, hs⟩)
  dsimp only [Pt.U, Pt.locs, Pt.cells, Pt.slots] at X' hS1 hle l1 l2 l3 stp
  subst l1 l2 l3
  obtain ⟨k0, hS, hk0⟩ := Sw
  have hZ1 : Z.Warmed39 T'.vm := State.Warmed39.trans (t := s0.setVm vm0) hZ hS1.1
  obtain ⟨st', hst', K'⟩ := K v _ _ hQ ⟨C.1, C.2.1, C.2.2.1, by rw [show (s0.setVm T'.vm).vm = T'.vm from rfl, hS1.1.alike.findClass]; exact C.2.2.2.1, hZ1, C.2.2.2.2.2⟩ ⟨_, foldS (T := T) hS (by rw [eT]; exact hk0) hS1 hle, Nat.le_refl _⟩ hS1.1
  obtain ⟨s₂, v', S, r⟩ := K' _ _ X' (N.app NL) rfl
  exact ⟨s₂, v', stp.trans (by subst hq hst'; exact S), r⟩
theorem g_callVW (C : Cx p (s0.setVm vm0) m meth c Z own nm code ml ret) {y : MethodName} {bytes : ByteArray} {maxL : Nat} {rt : Option FieldType} {rm : Room} {P : Vm → Prop} {Q : Option Value → Vm → Heap → Prop} {index W : Nat} {argsL : List Value} {y0 : MethodName} {Cl : String} {a : Addr} (Sw : Sn s0 vm0 h) (d : decode code pc = .ok (.invokevirtual index, 3)) (w1 : (Cond.methodLink own index y0).before a0 Z = true) (w2 : (Cond.declares y0).before a0 Z = true) (w5 : (Cond.selects Cl y0 y).before a0 Z = true) (w6 : (Cond.instanceMethod y).before a0 Z = true) (w3 : (Cond.initialized y.cls).before a0 Z = true) (w4 : (Cond.code y bytes maxL rt).before a0 Z = true) (hy : y0.cls ≠ "java/lang/invoke/MethodHandle" ∧ y0.cls ≠ "java/lang/invoke/VarHandle") (hnf : NotFace (s0.setVm vm0) y0)
    (E : Exa Z h a Cl) (M : CtrW l Z y bytes maxL rt rm (.ref a :: argsL).toArray h n0 P Q) (hf : rm.frames + 1 ≤ R.frames) (hl : W + (maxL + 11) + rm.locals ≤ R.locals) (hc : k + rm.cells ≤ R.cells) (hs : n + rm.slots ≤ R.slots) (hsz : Ls.size = ml) (hlen : ∀ sig, parseMethodDescriptor y0.desc = some sig → argsL.length = sig.parameters.length) (hst : st = argsL.reverse ++ .ref a :: rest) (hW : (rest.map fun v => v.category).sum = W) (hq : pc + 3 = q)
    (hP : ∀ vm1, (s0.setVm vm0).WarmedH vm1 → P vm1) (K : ∀ v vm1 h', Q v vm1 h' → Cx p (s0.setVm vm1) m meth c Z own nm code ml ret → Sn s0 vm1 h' → (s0.setVm vm0).Warmed39 vm1 → ∃ st', st' = v.toList ++ rest ∧ Go p l e R (s0.setVm vm1) m args below meth c Ph n0 h' (k + rm.cells) (n + rm.slots) q Ls st') : Go p l e R (s0.setVm vm0) m args below meth c Ph n0 h k n pc Ls st := fun T locs X N eT => by
  have hZ := C.2.2.2.2.1
  obtain ⟨cq, kq, qa, qb, qc⟩ := isOf hZ eT E
  obtain ⟨v, vm1, ⟨T', L', k', n'⟩, -, X', hS1, hle, ⟨L, ⟨hQ, NL⟩, l1, l2, l3⟩, stp⟩ := X.virtualBackS C.1 (y := y0) (z := y) C.2.2.2.1 (mvT hZ w1) (mvT hZ w2) hnf (mvT hZ w5) (mvT hZ w6) hy (backOfW (W := W) M hZ w4 w3 hf hl) qa qc (g := mkF m pc Ls st) rfl (hsz.trans C.2.2.1.symm) (Steps.refl _) (argsL := argsL) (rest := rest) hlen hst (by show 2 * 0 + _ ≤ _; rw [hW]; omega) (hb C.2.1 d) (fun vm1 hW1 => ⟨rfl, eT, hP vm1 hW1, hc, hs⟩)
  dsimp only [Pt.U, Pt.locs, Pt.cells, Pt.slots] at X' hS1 hle l1 l2 l3 stp
  subst l1 l2 l3
  obtain ⟨k0, hS, hk0⟩ := Sw
  have hZ1 : Z.Warmed39 T'.vm := State.Warmed39.trans (t := s0.setVm vm0) hZ hS1.1
  obtain ⟨st', hst', K'⟩ := K v _ _ hQ ⟨C.1, C.2.1, C.2.2.1, by rw [show (s0.setVm T'.vm).vm = T'.vm from rfl, hS1.1.alike.findClass]; exact C.2.2.2.1, hZ1, C.2.2.2.2.2⟩ ⟨_, foldS (T := T) hS (by rw [eT]; exact hk0) hS1 hle, Nat.le_refl _⟩ hS1.1
  obtain ⟨s₂, v', S, r⟩ := K' _ _ X' (N.app NL) rfl
  exact ⟨s₂, v', stp.trans (by subst hq hst'; exact S), r⟩
end GoWide
end Jvm.Pilot.@@N@@

namespace Jvm.Pilot.@@N@@
open Jvm Jvm.ClassFile Sem Op Lib Jvm.Free Jvm.Stand Jvm.LawKit Jvm.RoadKit Bundle Jvm.Pilot.@@N@@.Jvm.D
theorem wd0 {Z : State} {a0 : Array Value} (hw : ∀ d ∈ tables_1, d.before a0 Z = true) : (Jvm.Cond.constantLong "com/example/nuthatch/nuthatch/store/JournalTallyDropPassingPinLaw" (36 : Nat) (9223372036854775775 : Int64)).before a0 Z = true := hw _ (List.mem_of_getElem? (i := 0) rfl)
theorem wd1 {Z : State} {a0 : Array Value} (hw : ∀ d ∈ tables_1, d.before a0 Z = true) : (Jvm.Cond.constant "com/example/nuthatch/nuthatch/store/JournalTallyDropPassingPinLaw" (40 : Nat) (2147483647 : Int32)).before a0 Z = true := hw _ (List.mem_of_getElem? (i := 1) rfl)
theorem wd2 {Z : State} {a0 : Array Value} (hw : ∀ d ∈ tables_1, d.before a0 Z = true) : (Jvm.Cond.methodLink "com/example/nuthatch/nuthatch/store/JournalTallyDropPassingPinLaw" (41 : Nat) ({ cls := "com/example/nuthatch/nuthatch/store/JournalTallyDropPassingPinLaw", name := "live", desc := "(I)I" } : Jvm.MethodName)).before a0 Z = true := hw _ (List.mem_of_getElem? (i := 2) rfl)
theorem wd3 {Z : State} {a0 : Array Value} (hw : ∀ d ∈ tables_1, d.before a0 Z = true) : (Jvm.Cond.static ({ cls := "com/example/nuthatch/nuthatch/store/JournalTallyDropPassingPinLaw", name := "live", desc := "(I)I" } : Jvm.MethodName)).before a0 Z = true := hw _ (List.mem_of_getElem? (i := 3) rfl)
theorem wd4 {Z : State} {a0 : Array Value} (hw : ∀ d ∈ tables_1, d.before a0 Z = true) : (Jvm.Cond.initialized "com/example/nuthatch/nuthatch/store/JournalTallyDropPassingPinLaw").before a0 Z = true := hw _ (List.mem_of_getElem? (i := 4) rfl)
theorem wd5 {Z : State} {a0 : Array Value} (hw : ∀ d ∈ tables_1, d.before a0 Z = true) : (Jvm.Cond.code ({ cls := "com/example/nuthatch/nuthatch/store/JournalTallyDropPassingPinLaw", name := "live", desc := "(I)I" } : Jvm.MethodName) method_4_code (1 : Nat) (Option.some Jvm.ClassFile.FieldType.int)).before a0 Z = true := hw _ (List.mem_of_getElem? (i := 5) rfl)
theorem wd6 {Z : State} {a0 : Array Value} (hw : ∀ d ∈ tables_1, d.before a0 Z = true) : (Jvm.Cond.classLink "com/example/nuthatch/nuthatch/store/JournalTallyDropPassingPinLaw" (23 : Nat) "com/example/nuthatch/nuthatch/store/JournalTally").before a0 Z = true := hw _ (List.mem_of_getElem? (i := 6) rfl)
theorem wd7 {Z : State} {a0 : Array Value} (hw : ∀ d ∈ tables_1, d.before a0 Z = true) : (Jvm.Cond.instantiable "com/example/nuthatch/nuthatch/store/JournalTally" (6 : Nat)).before a0 Z = true := hw _ (List.mem_of_getElem? (i := 7) rfl)
theorem wd8 {Z : State} {a0 : Array Value} (hw : ∀ d ∈ tables_1, d.before a0 Z = true) : (Jvm.Cond.initialized "com/example/nuthatch/nuthatch/store/JournalTally").before a0 Z = true := hw _ (List.mem_of_getElem? (i := 8) rfl)
theorem wd9 {Z : State} {a0 : Array Value} (hw : ∀ d ∈ tables_1, d.before a0 Z = true) : (Jvm.Cond.methodLink "com/example/nuthatch/nuthatch/store/JournalTallyDropPassingPinLaw" (45 : Nat) ({ cls := "com/example/nuthatch/nuthatch/store/JournalTally", name := "<init>", desc := "()V" } : Jvm.MethodName)).before a0 Z = true := hw _ (List.mem_of_getElem? (i := 9) rfl)
theorem wd10 {Z : State} {a0 : Array Value} (hw : ∀ d ∈ tables_1, d.before a0 Z = true) : (Jvm.Cond.instanceMethod ({ cls := "com/example/nuthatch/nuthatch/store/JournalTally", name := "<init>", desc := "()V" } : Jvm.MethodName)).before a0 Z = true := hw _ (List.mem_of_getElem? (i := 10) rfl)
theorem wd11 {Z : State} {a0 : Array Value} (hw : ∀ d ∈ tables_1, d.before a0 Z = true) : (Jvm.Cond.code ({ cls := "com/example/nuthatch/nuthatch/store/JournalTally", name := "<init>", desc := "()V" } : Jvm.MethodName) prog_42_method_1_code (1 : Nat) (Option.none : Option Jvm.ClassFile.FieldType)).before a0 Z = true := hw _ (List.mem_of_getElem? (i := 11) rfl)
theorem wd12 {Z : State} {a0 : Array Value} (hw : ∀ d ∈ tables_1, d.before a0 Z = true) : (Jvm.Cond.methodLink "com/example/nuthatch/nuthatch/store/JournalTally" (1 : Nat) ({ cls := "java/lang/Object", name := "<init>", desc := "()V" } : Jvm.MethodName)).before a0 Z = true := hw _ (List.mem_of_getElem? (i := 12) rfl)
theorem wd13 {Z : State} {a0 : Array Value} (hw : ∀ d ∈ tables_1, d.before a0 Z = true) : (Jvm.Cond.instanceMethod ({ cls := "java/lang/Object", name := "<init>", desc := "()V" } : Jvm.MethodName)).before a0 Z = true := hw _ (List.mem_of_getElem? (i := 13) rfl)
theorem wd14 {Z : State} {a0 : Array Value} (hw : ∀ d ∈ tables_1, d.before a0 Z = true) : (Jvm.Cond.code ({ cls := "java/lang/Object", name := "<init>", desc := "()V" } : Jvm.MethodName) object_method_1_code (1 : Nat) (Option.none : Option Jvm.ClassFile.FieldType)).before a0 Z = true := hw _ (List.mem_of_getElem? (i := 14) rfl)
theorem wd15 {Z : State} {a0 : Array Value} (hw : ∀ d ∈ tables_1, d.before a0 Z = true) : (Jvm.Cond.arrayClass Jvm.ClassFile.FieldType.long).before a0 Z = true := hw _ (List.mem_of_getElem? (i := 15) rfl)
theorem wd16 {Z : State} {a0 : Array Value} (hw : ∀ d ∈ tables_1, d.before a0 Z = true) : (Jvm.Cond.fieldLink "com/example/nuthatch/nuthatch/store/JournalTally" (7 : Nat) "com/example/nuthatch/nuthatch/store/JournalTally" "created" "[J").before a0 Z = true := hw _ (List.mem_of_getElem? (i := 16) rfl)
theorem wd17 {Z : State} {a0 : Array Value} (hw : ∀ d ∈ tables_1, d.before a0 Z = true) : (Jvm.Cond.lays "com/example/nuthatch/nuthatch/store/JournalTally" "com/example/nuthatch/nuthatch/store/JournalTally" "created" "[J").before a0 Z = true := hw _ (List.mem_of_getElem? (i := 17) rfl)
theorem wd18 {Z : State} {a0 : Array Value} (hw : ∀ d ∈ tables_1, d.before a0 Z = true) : (Jvm.Cond.arrayClass Jvm.ClassFile.FieldType.int).before a0 Z = true := hw _ (List.mem_of_getElem? (i := 18) rfl)
theorem wd19 {Z : State} {a0 : Array Value} (hw : ∀ d ∈ tables_1, d.before a0 Z = true) : (Jvm.Cond.fieldLink "com/example/nuthatch/nuthatch/store/JournalTally" (13 : Nat) "com/example/nuthatch/nuthatch/store/JournalTally" "changes" "[I").before a0 Z = true := hw _ (List.mem_of_getElem? (i := 19) rfl)
theorem wd20 {Z : State} {a0 : Array Value} (hw : ∀ d ∈ tables_1, d.before a0 Z = true) : (Jvm.Cond.lays "com/example/nuthatch/nuthatch/store/JournalTally" "com/example/nuthatch/nuthatch/store/JournalTally" "changes" "[I").before a0 Z = true := hw _ (List.mem_of_getElem? (i := 20) rfl)
theorem wd21 {Z : State} {a0 : Array Value} (hw : ∀ d ∈ tables_1, d.before a0 Z = true) : (Jvm.Cond.fieldLink "com/example/nuthatch/nuthatch/store/JournalTally" (17 : Nat) "com/example/nuthatch/nuthatch/store/JournalTally" "ordered" "Z").before a0 Z = true := hw _ (List.mem_of_getElem? (i := 21) rfl)
theorem wd22 {Z : State} {a0 : Array Value} (hw : ∀ d ∈ tables_1, d.before a0 Z = true) : (Jvm.Cond.lays "com/example/nuthatch/nuthatch/store/JournalTally" "com/example/nuthatch/nuthatch/store/JournalTally" "ordered" "Z").before a0 Z = true := hw _ (List.mem_of_getElem? (i := 22) rfl)
theorem wd23 {Z : State} {a0 : Array Value} (hw : ∀ d ∈ tables_1, d.before a0 Z = true) : (Jvm.Cond.methodLink "com/example/nuthatch/nuthatch/store/JournalTallyDropPassingPinLaw" (46 : Nat) ({ cls := "com/example/nuthatch/nuthatch/store/JournalTallyDropPassingPinLaw", name := "createWithOp", desc := "(Lcom/example/nuthatch/nuthatch/store/JournalTally;JI)V" } : Jvm.MethodName)).before a0 Z = true := hw _ (List.mem_of_getElem? (i := 23) rfl)
theorem wd24 {Z : State} {a0 : Array Value} (hw : ∀ d ∈ tables_1, d.before a0 Z = true) : (Jvm.Cond.static ({ cls := "com/example/nuthatch/nuthatch/store/JournalTallyDropPassingPinLaw", name := "createWithOp", desc := "(Lcom/example/nuthatch/nuthatch/store/JournalTally;JI)V" } : Jvm.MethodName)).before a0 Z = true := hw _ (List.mem_of_getElem? (i := 24) rfl)
theorem wd25 {Z : State} {a0 : Array Value} (hw : ∀ d ∈ tables_1, d.before a0 Z = true) : (Jvm.Cond.code ({ cls := "com/example/nuthatch/nuthatch/store/JournalTallyDropPassingPinLaw", name := "createWithOp", desc := "(Lcom/example/nuthatch/nuthatch/store/JournalTally;JI)V" } : Jvm.MethodName) method_3_code (4 : Nat) (Option.none : Option Jvm.ClassFile.FieldType)).before a0 Z = true := hw _ (List.mem_of_getElem? (i := 25) rfl)
theorem wd26 {Z : State} {a0 : Array Value} (hw : ∀ d ∈ tables_1, d.before a0 Z = true) : (Jvm.Cond.fieldLink "com/example/nuthatch/nuthatch/store/JournalTallyDropPassingPinLaw" (19 : Nat) "com/example/nuthatch/nuthatch/store/ChangeRecord$Kind" "CREATE" "Lcom/example/nuthatch/nuthatch/store/ChangeRecord$Kind;").before a0 Z = true := hw _ (List.mem_of_getElem? (i := 26) rfl)
theorem wd27 {Z : State} {a0 : Array Value} (hw : ∀ d ∈ tables_1, d.before a0 Z = true) : (Jvm.Cond.initialized "com/example/nuthatch/nuthatch/store/ChangeRecord$Kind").before a0 Z = true := hw _ (List.mem_of_getElem? (i := 27) rfl)
theorem wd28 {Z : State} {a0 : Array Value} (hw : ∀ d ∈ tables_1, d.before a0 Z = true) : (Jvm.Cond.laysStatic "com/example/nuthatch/nuthatch/store/ChangeRecord$Kind" "CREATE" "Lcom/example/nuthatch/nuthatch/store/ChangeRecord$Kind;").before a0 Z = true := hw _ (List.mem_of_getElem? (i := 28) rfl)
theorem wd29 {Z : State} {a0 : Array Value} (hw : ∀ d ∈ tables_1, d.before a0 Z = true) : (Jvm.Cond.methodLink "com/example/nuthatch/nuthatch/store/JournalTallyDropPassingPinLaw" (22 : Nat) ({ cls := "com/example/nuthatch/nuthatch/store/JournalTally", name := "add", desc := "(Lcom/example/nuthatch/nuthatch/store/ChangeRecord$Kind;J)V" } : Jvm.MethodName)).before a0 Z = true := hw _ (List.mem_of_getElem? (i := 29) rfl)
theorem wd30 {Z : State} {a0 : Array Value} (hw : ∀ d ∈ tables_1, d.before a0 Z = true) : (Jvm.Cond.declares ({ cls := "com/example/nuthatch/nuthatch/store/JournalTally", name := "add", desc := "(Lcom/example/nuthatch/nuthatch/store/ChangeRecord$Kind;J)V" } : Jvm.MethodName)).before a0 Z = true := hw _ (List.mem_of_getElem? (i := 30) rfl)
theorem wd31 {Z : State} {a0 : Array Value} (hw : ∀ d ∈ tables_1, d.before a0 Z = true) : (Jvm.Cond.instanceMethod ({ cls := "com/example/nuthatch/nuthatch/store/JournalTally", name := "add", desc := "(Lcom/example/nuthatch/nuthatch/store/ChangeRecord$Kind;J)V" } : Jvm.MethodName)).before a0 Z = true := hw _ (List.mem_of_getElem? (i := 31) rfl)
theorem wd32 {Z : State} {a0 : Array Value} (hw : ∀ d ∈ tables_1, d.before a0 Z = true) : (Jvm.Cond.selects "com/example/nuthatch/nuthatch/store/JournalTally" ({ cls := "com/example/nuthatch/nuthatch/store/JournalTally", name := "add", desc := "(Lcom/example/nuthatch/nuthatch/store/ChangeRecord$Kind;J)V" } : Jvm.MethodName) ({ cls := "com/example/nuthatch/nuthatch/store/JournalTally", name := "add", desc := "(Lcom/example/nuthatch/nuthatch/store/ChangeRecord$Kind;J)V" } : Jvm.MethodName)).before a0 Z = true := hw _ (List.mem_of_getElem? (i := 32) rfl)
theorem wd33 {Z : State} {a0 : Array Value} (hw : ∀ d ∈ tables_1, d.before a0 Z = true) : (Jvm.Cond.code ({ cls := "com/example/nuthatch/nuthatch/store/JournalTally", name := "add", desc := "(Lcom/example/nuthatch/nuthatch/store/ChangeRecord$Kind;J)V" } : Jvm.MethodName) prog_42_method_2_code (5 : Nat) (Option.none : Option Jvm.ClassFile.FieldType)).before a0 Z = true := hw _ (List.mem_of_getElem? (i := 33) rfl)
theorem wd34 {Z : State} {a0 : Array Value} (hw : ∀ d ∈ tables_1, d.before a0 Z = true) : (Jvm.Cond.methodLink "com/example/nuthatch/nuthatch/store/JournalTally" (21 : Nat) ({ cls := "com/example/nuthatch/nuthatch/store/JournalTally", name := "creation", desc := "(J)I" } : Jvm.MethodName)).before a0 Z = true := hw _ (List.mem_of_getElem? (i := 34) rfl)
theorem wd35 {Z : State} {a0 : Array Value} (hw : ∀ d ∈ tables_1, d.before a0 Z = true) : (Jvm.Cond.instanceMethod ({ cls := "com/example/nuthatch/nuthatch/store/JournalTally", name := "creation", desc := "(J)I" } : Jvm.MethodName)).before a0 Z = true := hw _ (List.mem_of_getElem? (i := 35) rfl)
theorem wd36 {Z : State} {a0 : Array Value} (hw : ∀ d ∈ tables_1, d.before a0 Z = true) : (Jvm.Cond.privateMethod ({ cls := "com/example/nuthatch/nuthatch/store/JournalTally", name := "creation", desc := "(J)I" } : Jvm.MethodName)).before a0 Z = true := hw _ (List.mem_of_getElem? (i := 36) rfl)
theorem wd37 {Z : State} {a0 : Array Value} (hw : ∀ d ∈ tables_1, d.before a0 Z = true) : (Jvm.Cond.code ({ cls := "com/example/nuthatch/nuthatch/store/JournalTally", name := "creation", desc := "(J)I" } : Jvm.MethodName) prog_42_method_6_code (7 : Nat) (Option.some Jvm.ClassFile.FieldType.int)).before a0 Z = true := hw _ (List.mem_of_getElem? (i := 37) rfl)
theorem wd38 {Z : State} {a0 : Array Value} (hw : ∀ d ∈ tables_1, d.before a0 Z = true) : (Jvm.Cond.fieldLink "com/example/nuthatch/nuthatch/store/JournalTally" (31 : Nat) "com/example/nuthatch/nuthatch/store/JournalTally" "creates" "I").before a0 Z = true := hw _ (List.mem_of_getElem? (i := 38) rfl)
theorem wd39 {Z : State} {a0 : Array Value} (hw : ∀ d ∈ tables_1, d.before a0 Z = true) : (Jvm.Cond.lays "com/example/nuthatch/nuthatch/store/JournalTally" "com/example/nuthatch/nuthatch/store/JournalTally" "creates" "I").before a0 Z = true := hw _ (List.mem_of_getElem? (i := 39) rfl)
theorem wd40 {Z : State} {a0 : Array Value} (hw : ∀ d ∈ tables_1, d.before a0 Z = true) : (Jvm.Cond.fieldLink "com/example/nuthatch/nuthatch/store/JournalTally" (25 : Nat) "com/example/nuthatch/nuthatch/store/ChangeRecord$Kind" "CREATE" "Lcom/example/nuthatch/nuthatch/store/ChangeRecord$Kind;").before a0 Z = true := hw _ (List.mem_of_getElem? (i := 40) rfl)
theorem wd41 {Z : State} {a0 : Array Value} (hw : ∀ d ∈ tables_1, d.before a0 Z = true) : (Jvm.Cond.fieldLink "com/example/nuthatch/nuthatch/store/JournalTally" (44 : Nat) "com/example/nuthatch/nuthatch/store/JournalTally" "writes" "I").before a0 Z = true := hw _ (List.mem_of_getElem? (i := 41) rfl)
theorem wd42 {Z : State} {a0 : Array Value} (hw : ∀ d ∈ tables_1, d.before a0 Z = true) : (Jvm.Cond.lays "com/example/nuthatch/nuthatch/store/JournalTally" "com/example/nuthatch/nuthatch/store/JournalTally" "writes" "I").before a0 Z = true := hw _ (List.mem_of_getElem? (i := 42) rfl)
theorem wd43 {Z : State} {a0 : Array Value} (hw : ∀ d ∈ tables_1, d.before a0 Z = true) : (Jvm.Cond.fieldLink "com/example/nuthatch/nuthatch/store/JournalTally" (50 : Nat) "com/example/nuthatch/nuthatch/store/JournalTally" "count" "I").before a0 Z = true := hw _ (List.mem_of_getElem? (i := 43) rfl)
theorem wd44 {Z : State} {a0 : Array Value} (hw : ∀ d ∈ tables_1, d.before a0 Z = true) : (Jvm.Cond.lays "com/example/nuthatch/nuthatch/store/JournalTally" "com/example/nuthatch/nuthatch/store/JournalTally" "count" "I").before a0 Z = true := hw _ (List.mem_of_getElem? (i := 44) rfl)
theorem wd45 {Z : State} {a0 : Array Value} (hw : ∀ d ∈ tables_1, d.before a0 Z = true) : (Jvm.Cond.methodLink "com/example/nuthatch/nuthatch/store/JournalTallyDropPassingPinLaw" (28 : Nat) ({ cls := "com/example/nuthatch/nuthatch/store/JournalTallyDropPassingPinLaw", name := "kindOf", desc := "(I)Lcom/example/nuthatch/nuthatch/store/ChangeRecord$Kind;" } : Jvm.MethodName)).before a0 Z = true := hw _ (List.mem_of_getElem? (i := 45) rfl)
theorem wd46 {Z : State} {a0 : Array Value} (hw : ∀ d ∈ tables_1, d.before a0 Z = true) : (Jvm.Cond.static ({ cls := "com/example/nuthatch/nuthatch/store/JournalTallyDropPassingPinLaw", name := "kindOf", desc := "(I)Lcom/example/nuthatch/nuthatch/store/ChangeRecord$Kind;" } : Jvm.MethodName)).before a0 Z = true := hw _ (List.mem_of_getElem? (i := 46) rfl)
theorem wd47 {Z : State} {a0 : Array Value} (hw : ∀ d ∈ tables_1, d.before a0 Z = true) : (Jvm.Cond.code ({ cls := "com/example/nuthatch/nuthatch/store/JournalTallyDropPassingPinLaw", name := "kindOf", desc := "(I)Lcom/example/nuthatch/nuthatch/store/ChangeRecord$Kind;" } : Jvm.MethodName) method_2_code (1 : Nat) (Option.some (Jvm.ClassFile.FieldType.object "com/example/nuthatch/nuthatch/store/ChangeRecord$Kind"))).before a0 Z = true := hw _ (List.mem_of_getElem? (i := 47) rfl)
theorem wd48 {Z : State} {a0 : Array Value} (hw : ∀ d ∈ tables_1, d.before a0 Z = true) : (Jvm.Cond.fieldLink "com/example/nuthatch/nuthatch/store/JournalTallyDropPassingPinLaw" (7 : Nat) "com/example/nuthatch/nuthatch/store/ChangeRecord$Kind" "UPDATE" "Lcom/example/nuthatch/nuthatch/store/ChangeRecord$Kind;").before a0 Z = true := hw _ (List.mem_of_getElem? (i := 48) rfl)
theorem wd49 {Z : State} {a0 : Array Value} (hw : ∀ d ∈ tables_1, d.before a0 Z = true) : (Jvm.Cond.laysStatic "com/example/nuthatch/nuthatch/store/ChangeRecord$Kind" "UPDATE" "Lcom/example/nuthatch/nuthatch/store/ChangeRecord$Kind;").before a0 Z = true := hw _ (List.mem_of_getElem? (i := 49) rfl)
theorem wd50 {Z : State} {a0 : Array Value} (hw : ∀ d ∈ tables_1, d.before a0 Z = true) : (Jvm.Cond.fieldLink "com/example/nuthatch/nuthatch/store/JournalTally" (47 : Nat) "com/example/nuthatch/nuthatch/store/ChangeRecord$Kind" "DELETE" "Lcom/example/nuthatch/nuthatch/store/ChangeRecord$Kind;").before a0 Z = true := hw _ (List.mem_of_getElem? (i := 50) rfl)
theorem wd51 {Z : State} {a0 : Array Value} (hw : ∀ d ∈ tables_1, d.before a0 Z = true) : (Jvm.Cond.laysStatic "com/example/nuthatch/nuthatch/store/ChangeRecord$Kind" "DELETE" "Lcom/example/nuthatch/nuthatch/store/ChangeRecord$Kind;").before a0 Z = true := hw _ (List.mem_of_getElem? (i := 51) rfl)
theorem wd52 {Z : State} {a0 : Array Value} (hw : ∀ d ∈ tables_1, d.before a0 Z = true) : (Jvm.Cond.methodLink "com/example/nuthatch/nuthatch/store/JournalTallyDropPassingPinLaw" (50 : Nat) ({ cls := "com/example/nuthatch/nuthatch/store/JournalTally", name := "dropPassing", desc := "()V" } : Jvm.MethodName)).before a0 Z = true := hw _ (List.mem_of_getElem? (i := 52) rfl)
theorem wd53 {Z : State} {a0 : Array Value} (hw : ∀ d ∈ tables_1, d.before a0 Z = true) : (Jvm.Cond.declares ({ cls := "com/example/nuthatch/nuthatch/store/JournalTally", name := "dropPassing", desc := "()V" } : Jvm.MethodName)).before a0 Z = true := hw _ (List.mem_of_getElem? (i := 53) rfl)
theorem wd54 {Z : State} {a0 : Array Value} (hw : ∀ d ∈ tables_1, d.before a0 Z = true) : (Jvm.Cond.instanceMethod ({ cls := "com/example/nuthatch/nuthatch/store/JournalTally", name := "dropPassing", desc := "()V" } : Jvm.MethodName)).before a0 Z = true := hw _ (List.mem_of_getElem? (i := 54) rfl)
theorem wd55 {Z : State} {a0 : Array Value} (hw : ∀ d ∈ tables_1, d.before a0 Z = true) : (Jvm.Cond.selects "com/example/nuthatch/nuthatch/store/JournalTally" ({ cls := "com/example/nuthatch/nuthatch/store/JournalTally", name := "dropPassing", desc := "()V" } : Jvm.MethodName) ({ cls := "com/example/nuthatch/nuthatch/store/JournalTally", name := "dropPassing", desc := "()V" } : Jvm.MethodName)).before a0 Z = true := hw _ (List.mem_of_getElem? (i := 55) rfl)
theorem wd56 {Z : State} {a0 : Array Value} (hw : ∀ d ∈ tables_1, d.before a0 Z = true) : (Jvm.Cond.code ({ cls := "com/example/nuthatch/nuthatch/store/JournalTally", name := "dropPassing", desc := "()V" } : Jvm.MethodName) prog_42_method_5_code (3 : Nat) (Option.none : Option Jvm.ClassFile.FieldType)).before a0 Z = true := hw _ (List.mem_of_getElem? (i := 56) rfl)
theorem wd57 {Z : State} {a0 : Array Value} (hw : ∀ d ∈ tables_1, d.before a0 Z = true) : (Jvm.Cond.methodLink "com/example/nuthatch/nuthatch/store/JournalTallyDropPassingPinLaw" (53 : Nat) ({ cls := "com/example/nuthatch/nuthatch/store/JournalTally", name := "writes", desc := "()I" } : Jvm.MethodName)).before a0 Z = true := hw _ (List.mem_of_getElem? (i := 57) rfl)
theorem wd58 {Z : State} {a0 : Array Value} (hw : ∀ d ∈ tables_1, d.before a0 Z = true) : (Jvm.Cond.declares ({ cls := "com/example/nuthatch/nuthatch/store/JournalTally", name := "writes", desc := "()I" } : Jvm.MethodName)).before a0 Z = true := hw _ (List.mem_of_getElem? (i := 58) rfl)
theorem wd59 {Z : State} {a0 : Array Value} (hw : ∀ d ∈ tables_1, d.before a0 Z = true) : (Jvm.Cond.instanceMethod ({ cls := "com/example/nuthatch/nuthatch/store/JournalTally", name := "writes", desc := "()I" } : Jvm.MethodName)).before a0 Z = true := hw _ (List.mem_of_getElem? (i := 59) rfl)
theorem wd60 {Z : State} {a0 : Array Value} (hw : ∀ d ∈ tables_1, d.before a0 Z = true) : (Jvm.Cond.selects "com/example/nuthatch/nuthatch/store/JournalTally" ({ cls := "com/example/nuthatch/nuthatch/store/JournalTally", name := "writes", desc := "()I" } : Jvm.MethodName) ({ cls := "com/example/nuthatch/nuthatch/store/JournalTally", name := "writes", desc := "()I" } : Jvm.MethodName)).before a0 Z = true := hw _ (List.mem_of_getElem? (i := 60) rfl)
theorem wd61 {Z : State} {a0 : Array Value} (hw : ∀ d ∈ tables_1, d.before a0 Z = true) : (Jvm.Cond.code ({ cls := "com/example/nuthatch/nuthatch/store/JournalTally", name := "writes", desc := "()I" } : Jvm.MethodName) prog_42_method_3_code (1 : Nat) (Option.some Jvm.ClassFile.FieldType.int)).before a0 Z = true := hw _ (List.mem_of_getElem? (i := 61) rfl)
theorem wd62 {Z : State} {a0 : Array Value} (hw : ∀ d ∈ tables_1, d.before a0 Z = true) : (Jvm.Cond.methodLink "com/example/nuthatch/nuthatch/store/JournalTallyDropPassingPinLaw" (57 : Nat) ({ cls := "com/example/nuthatch/nuthatch/store/JournalTally", name := "passing", desc := "()[J" } : Jvm.MethodName)).before a0 Z = true := hw _ (List.mem_of_getElem? (i := 62) rfl)
theorem wd63 {Z : State} {a0 : Array Value} (hw : ∀ d ∈ tables_1, d.before a0 Z = true) : (Jvm.Cond.declares ({ cls := "com/example/nuthatch/nuthatch/store/JournalTally", name := "passing", desc := "()[J" } : Jvm.MethodName)).before a0 Z = true := hw _ (List.mem_of_getElem? (i := 63) rfl)
theorem wd64 {Z : State} {a0 : Array Value} (hw : ∀ d ∈ tables_1, d.before a0 Z = true) : (Jvm.Cond.instanceMethod ({ cls := "com/example/nuthatch/nuthatch/store/JournalTally", name := "passing", desc := "()[J" } : Jvm.MethodName)).before a0 Z = true := hw _ (List.mem_of_getElem? (i := 64) rfl)
theorem wd65 {Z : State} {a0 : Array Value} (hw : ∀ d ∈ tables_1, d.before a0 Z = true) : (Jvm.Cond.selects "com/example/nuthatch/nuthatch/store/JournalTally" ({ cls := "com/example/nuthatch/nuthatch/store/JournalTally", name := "passing", desc := "()[J" } : Jvm.MethodName) ({ cls := "com/example/nuthatch/nuthatch/store/JournalTally", name := "passing", desc := "()[J" } : Jvm.MethodName)).before a0 Z = true := hw _ (List.mem_of_getElem? (i := 65) rfl)
theorem wd66 {Z : State} {a0 : Array Value} (hw : ∀ d ∈ tables_1, d.before a0 Z = true) : (Jvm.Cond.code ({ cls := "com/example/nuthatch/nuthatch/store/JournalTally", name := "passing", desc := "()[J" } : Jvm.MethodName) prog_42_method_4_code (4 : Nat) (Option.some (Jvm.ClassFile.FieldType.array Jvm.ClassFile.FieldType.long))).before a0 Z = true := hw _ (List.mem_of_getElem? (i := 66) rfl)
theorem wd67 {Z : State} {a0 : Array Value} (hw : ∀ d ∈ tables_1, d.before a0 Z = true) : (Jvm.Cond.methodLink "com/example/nuthatch/nuthatch/store/JournalTally" (35 : Nat) ({ cls := "java/util/Arrays", name := "copyOf", desc := "([JI)[J" } : Jvm.MethodName)).before a0 Z = true := hw _ (List.mem_of_getElem? (i := 67) rfl)
theorem wd68 {Z : State} {a0 : Array Value} (hw : ∀ d ∈ tables_1, d.before a0 Z = true) : (Jvm.Cond.static ({ cls := "java/util/Arrays", name := "copyOf", desc := "([JI)[J" } : Jvm.MethodName)).before a0 Z = true := hw _ (List.mem_of_getElem? (i := 68) rfl)
theorem wd69 {Z : State} {a0 : Array Value} (hw : ∀ d ∈ tables_1, d.before a0 Z = true) : (Jvm.Cond.initialized "java/util/Arrays").before a0 Z = true := hw _ (List.mem_of_getElem? (i := 69) rfl)
theorem wd70 {Z : State} {a0 : Array Value} (hw : ∀ d ∈ tables_1, d.before a0 Z = true) : (Jvm.Cond.code ({ cls := "java/util/Arrays", name := "copyOf", desc := "([JI)[J" } : Jvm.MethodName) jdk_65_method_124_code (3 : Nat) (Option.some (Jvm.ClassFile.FieldType.array Jvm.ClassFile.FieldType.long))).before a0 Z = true := hw _ (List.mem_of_getElem? (i := 70) rfl)
theorem wd71 {Z : State} {a0 : Array Value} (hw : ∀ d ∈ tables_1, d.before a0 Z = true) : (Jvm.Cond.methodLink "java/util/Arrays" (304 : Nat) ({ cls := "java/lang/Math", name := "min", desc := "(II)I" } : Jvm.MethodName)).before a0 Z = true := hw _ (List.mem_of_getElem? (i := 71) rfl)
theorem wd72 {Z : State} {a0 : Array Value} (hw : ∀ d ∈ tables_1, d.before a0 Z = true) : (Jvm.Cond.static ({ cls := "java/lang/Math", name := "min", desc := "(II)I" } : Jvm.MethodName)).before a0 Z = true := hw _ (List.mem_of_getElem? (i := 72) rfl)
theorem wd73 {Z : State} {a0 : Array Value} (hw : ∀ d ∈ tables_1, d.before a0 Z = true) : (Jvm.Cond.initialized "java/lang/Math").before a0 Z = true := hw _ (List.mem_of_getElem? (i := 73) rfl)
theorem wd74 {Z : State} {a0 : Array Value} (hw : ∀ d ∈ tables_1, d.before a0 Z = true) : (Jvm.Cond.code ({ cls := "java/lang/Math", name := "min", desc := "(II)I" } : Jvm.MethodName) jdk_29_method_69_code (2 : Nat) (Option.some Jvm.ClassFile.FieldType.int)).before a0 Z = true := hw _ (List.mem_of_getElem? (i := 74) rfl)
theorem wd75 {Z : State} {a0 : Array Value} (hw : ∀ d ∈ tables_1, d.before a0 Z = true) : (Jvm.Cond.methodLink "java/util/Arrays" (150 : Nat) ({ cls := "java/lang/System", name := "arraycopy", desc := "(Ljava/lang/Object;ILjava/lang/Object;II)V" } : Jvm.MethodName)).before a0 Z = true := hw _ (List.mem_of_getElem? (i := 75) rfl)
theorem wd76 {Z : State} {a0 : Array Value} (hw : ∀ d ∈ tables_1, d.before a0 Z = true) : (Jvm.Cond.static ({ cls := "java/lang/System", name := "arraycopy", desc := "(Ljava/lang/Object;ILjava/lang/Object;II)V" } : Jvm.MethodName)).before a0 Z = true := hw _ (List.mem_of_getElem? (i := 76) rfl)
theorem wd77 {Z : State} {a0 : Array Value} (hw : ∀ d ∈ tables_1, d.before a0 Z = true) : (Jvm.Cond.initialized "java/lang/System").before a0 Z = true := hw _ (List.mem_of_getElem? (i := 77) rfl)
theorem wd78 {Z : State} {a0 : Array Value} (hw : ∀ d ∈ tables_1, d.before a0 Z = true) : (Jvm.Cond.native ({ cls := "java/lang/System", name := "arraycopy", desc := "(Ljava/lang/Object;ILjava/lang/Object;II)V" } : Jvm.MethodName)).before a0 Z = true := hw _ (List.mem_of_getElem? (i := 78) rfl)
theorem wd79 {Z : State} {a0 : Array Value} (hw : ∀ d ∈ tables_1, d.before a0 Z = true) : (Jvm.Cond.fieldLink "com/example/nuthatch/nuthatch/store/JournalTallyDropPassingPinLaw" (16 : Nat) "com/example/nuthatch/nuthatch/store/ChangeRecord$Kind" "DELETE" "Lcom/example/nuthatch/nuthatch/store/ChangeRecord$Kind;").before a0 Z = true := hw _ (List.mem_of_getElem? (i := 79) rfl)
theorem wd80 {Z : State} {a0 : Array Value} (hw : ∀ d ∈ tables_1, d.before a0 Z = true) : (Jvm.Cond.methodLink "com/example/nuthatch/nuthatch/store/JournalTally" (53 : Nat) ({ cls := "java/util/Arrays", name := "binarySearch", desc := "([JIIJ)I" } : Jvm.MethodName)).before a0 Z = true := hw _ (List.mem_of_getElem? (i := 80) rfl)
theorem wd81 {Z : State} {a0 : Array Value} (hw : ∀ d ∈ tables_1, d.before a0 Z = true) : (Jvm.Cond.static ({ cls := "java/util/Arrays", name := "binarySearch", desc := "([JIIJ)I" } : Jvm.MethodName)).before a0 Z = true := hw _ (List.mem_of_getElem? (i := 81) rfl)
theorem wd82 {Z : State} {a0 : Array Value} (hw : ∀ d ∈ tables_1, d.before a0 Z = true) : (Jvm.Cond.code ({ cls := "java/util/Arrays", name := "binarySearch", desc := "([JIIJ)I" } : Jvm.MethodName) jdk_65_method_55_code (5 : Nat) (Option.some Jvm.ClassFile.FieldType.int)).before a0 Z = true := hw _ (List.mem_of_getElem? (i := 82) rfl)
theorem wd83 {Z : State} {a0 : Array Value} (hw : ∀ d ∈ tables_1, d.before a0 Z = true) : (Jvm.Cond.methodLink "java/util/Arrays" (13 : Nat) ({ cls := "java/util/Arrays", name := "rangeCheck", desc := "(III)V" } : Jvm.MethodName)).before a0 Z = true := hw _ (List.mem_of_getElem? (i := 83) rfl)
theorem wd84 {Z : State} {a0 : Array Value} (hw : ∀ d ∈ tables_1, d.before a0 Z = true) : (Jvm.Cond.static ({ cls := "java/util/Arrays", name := "rangeCheck", desc := "(III)V" } : Jvm.MethodName)).before a0 Z = true := hw _ (List.mem_of_getElem? (i := 84) rfl)
theorem wd85 {Z : State} {a0 : Array Value} (hw : ∀ d ∈ tables_1, d.before a0 Z = true) : (Jvm.Cond.code ({ cls := "java/util/Arrays", name := "rangeCheck", desc := "(III)V" } : Jvm.MethodName) jdk_65_method_30_code (3 : Nat) (Option.none : Option Jvm.ClassFile.FieldType)).before a0 Z = true := hw _ (List.mem_of_getElem? (i := 85) rfl)
theorem wd86 {Z : State} {a0 : Array Value} (hw : ∀ d ∈ tables_1, d.before a0 Z = true) : (Jvm.Cond.methodLink "java/util/Arrays" (205 : Nat) ({ cls := "java/util/Arrays", name := "binarySearch0", desc := "([JIIJ)I" } : Jvm.MethodName)).before a0 Z = true := hw _ (List.mem_of_getElem? (i := 86) rfl)
theorem wd87 {Z : State} {a0 : Array Value} (hw : ∀ d ∈ tables_1, d.before a0 Z = true) : (Jvm.Cond.static ({ cls := "java/util/Arrays", name := "binarySearch0", desc := "([JIIJ)I" } : Jvm.MethodName)).before a0 Z = true := hw _ (List.mem_of_getElem? (i := 87) rfl)
theorem wd88 {Z : State} {a0 : Array Value} (hw : ∀ d ∈ tables_1, d.before a0 Z = true) : (Jvm.Cond.code ({ cls := "java/util/Arrays", name := "binarySearch0", desc := "([JIIJ)I" } : Jvm.MethodName) jdk_65_method_56_code (10 : Nat) (Option.some Jvm.ClassFile.FieldType.int)).before a0 Z = true := hw _ (List.mem_of_getElem? (i := 88) rfl)
theorem wd89 {Z : State} {a0 : Array Value} (hw : ∀ d ∈ tables_1, d.before a0 Z = true) : (Jvm.Cond.fieldLink "com/example/nuthatch/nuthatch/store/JournalTallyDropPassingPinLaw" (13 : Nat) "com/example/nuthatch/nuthatch/store/ChangeRecord$Kind" "ASSIGN" "Lcom/example/nuthatch/nuthatch/store/ChangeRecord$Kind;").before a0 Z = true := hw _ (List.mem_of_getElem? (i := 89) rfl)
theorem wd90 {Z : State} {a0 : Array Value} (hw : ∀ d ∈ tables_1, d.before a0 Z = true) : (Jvm.Cond.laysStatic "com/example/nuthatch/nuthatch/store/ChangeRecord$Kind" "ASSIGN" "Lcom/example/nuthatch/nuthatch/store/ChangeRecord$Kind;").before a0 Z = true := hw _ (List.mem_of_getElem? (i := 90) rfl)
theorem wd91 {Z : State} {a0 : Array Value} (hw : ∀ d ∈ tables_1, d.before a0 Z = true) : (Jvm.Cond.methodLink "java/util/Arrays" (319 : Nat) ({ cls := "[J", name := "clone", desc := "()Ljava/lang/Object;" } : Jvm.MethodName)).before a0 Z = true := hw _ (List.mem_of_getElem? (i := 91) rfl)
theorem wd92 {Z : State} {a0 : Array Value} (hw : ∀ d ∈ tables_1, d.before a0 Z = true) : (Jvm.Cond.sameMethod "[J" "java/lang/Object" "clone" "()Ljava/lang/Object;").before a0 Z = true := hw _ (List.mem_of_getElem? (i := 92) rfl)
theorem wd94 {Z : State} {a0 : Array Value} (hw : ∀ d ∈ tables_1, d.before a0 Z = true) : (Jvm.Cond.instanceMethod ({ cls := "java/lang/Object", name := "clone", desc := "()Ljava/lang/Object;" } : Jvm.MethodName)).before a0 Z = true := hw _ (List.mem_of_getElem? (i := 94) rfl)
theorem wd95 {Z : State} {a0 : Array Value} (hw : ∀ d ∈ tables_1, d.before a0 Z = true) : (Jvm.Cond.selects "[J" ({ cls := "[J", name := "clone", desc := "()Ljava/lang/Object;" } : Jvm.MethodName) ({ cls := "java/lang/Object", name := "clone", desc := "()Ljava/lang/Object;" } : Jvm.MethodName)).before a0 Z = true := hw _ (List.mem_of_getElem? (i := 95) rfl)
theorem wd96 {Z : State} {a0 : Array Value} (hw : ∀ d ∈ tables_1, d.before a0 Z = true) : (Jvm.Cond.native ({ cls := "java/lang/Object", name := "clone", desc := "()Ljava/lang/Object;" } : Jvm.MethodName)).before a0 Z = true := hw _ (List.mem_of_getElem? (i := 96) rfl)
theorem wd97 {Z : State} {a0 : Array Value} (hw : ∀ d ∈ tables_1, d.before a0 Z = true) : (Jvm.Cond.castable "[J" "java/lang/Cloneable").before a0 Z = true := hw _ (List.mem_of_getElem? (i := 97) rfl)
theorem wd98 {Z : State} {a0 : Array Value} (hw : ∀ d ∈ tables_1, d.before a0 Z = true) : (Jvm.Cond.classLink "java/util/Arrays" (320 : Nat) "[J").before a0 Z = true := hw _ (List.mem_of_getElem? (i := 98) rfl)
theorem wd100 {Z : State} {a0 : Array Value} (hw : ∀ d ∈ tables_1, d.before a0 Z = true) : (Jvm.Cond.constantLong "com/example/nuthatch/nuthatch/store/JournalTallyDropPassingPinLaw" (38 : Nat) (32 : Int64)).before a0 Z = true := hw _ (List.mem_of_getElem? (i := 100) rfl)
theorem d1_0 : decode method_4_code 0 = .ok (.iload_n 0, 1) := by decide +kernel
theorem d1_1 : decode method_4_code 1 = .ok (.ifCond .ne 5, 3) := by decide +kernel
theorem d1_4 : decode method_4_code 4 = .ok (.iconst 1, 1) := by decide +kernel
theorem d1_5 : decode method_4_code 5 = .ok (.ireturn, 1) := by decide +kernel
theorem d1_6 : decode method_4_code 6 = .ok (.iload_n 0, 1) := by decide +kernel
theorem d1_7 : decode method_4_code 7 = .ok (.iconst 3, 1) := by decide +kernel
theorem d1_8 : decode method_4_code 8 = .ok (.if_icmp .ne 5, 3) := by decide +kernel
theorem d1_11 : decode method_4_code 11 = .ok (.iconst 0, 1) := by decide +kernel
theorem d1_12 : decode method_4_code 12 = .ok (.ireturn, 1) := by decide +kernel
theorem d1_13 : decode method_4_code 13 = .ok (.iconst 2, 1) := by decide +kernel
theorem d1_14 : decode method_4_code 14 = .ok (.ireturn, 1) := by decide +kernel
theorem d2_0 : decode prog_42_method_1_code 0 = .ok (.aload_n 0, 1) := by decide +kernel
theorem d2_1 : decode prog_42_method_1_code 1 = .ok (.invokespecial 1, 3) := by decide +kernel
theorem d2_4 : decode prog_42_method_1_code 4 = .ok (.aload_n 0, 1) := by decide +kernel
theorem d2_5 : decode prog_42_method_1_code 5 = .ok (.bipush 64, 2) := by decide +kernel
theorem d2_7 : decode prog_42_method_1_code 7 = .ok (.newarray .long, 2) := by decide +kernel
theorem d2_9 : decode prog_42_method_1_code 9 = .ok (.putfield 7, 3) := by decide +kernel
theorem d2_12 : decode prog_42_method_1_code 12 = .ok (.aload_n 0, 1) := by decide +kernel
theorem d2_13 : decode prog_42_method_1_code 13 = .ok (.bipush 64, 2) := by decide +kernel
theorem d2_15 : decode prog_42_method_1_code 15 = .ok (.newarray .int, 2) := by decide +kernel
theorem d2_17 : decode prog_42_method_1_code 17 = .ok (.putfield 13, 3) := by decide +kernel
theorem d2_20 : decode prog_42_method_1_code 20 = .ok (.aload_n 0, 1) := by decide +kernel
theorem d2_21 : decode prog_42_method_1_code 21 = .ok (.iconst 1, 1) := by decide +kernel
theorem d2_22 : decode prog_42_method_1_code 22 = .ok (.putfield 17, 3) := by decide +kernel
theorem d2_25 : decode prog_42_method_1_code 25 = .ok (.return_, 1) := by decide +kernel
theorem d4_0 : decode method_3_code 0 = .ok (.aload_n 0, 1) := by decide +kernel
theorem d4_1 : decode method_3_code 1 = .ok (.getstatic 19, 3) := by decide +kernel
theorem d4_4 : decode method_3_code 4 = .ok (.lload_n 1, 1) := by decide +kernel
theorem d4_5 : decode method_3_code 5 = .ok (.invokevirtual 22, 3) := by decide +kernel
theorem d4_8 : decode method_3_code 8 = .ok (.iload_n 3, 1) := by decide +kernel
theorem d4_9 : decode method_3_code 9 = .ok (.ifCond .eq 12, 3) := by decide +kernel
theorem d4_12 : decode method_3_code 12 = .ok (.aload_n 0, 1) := by decide +kernel
theorem d4_13 : decode method_3_code 13 = .ok (.iload_n 3, 1) := by decide +kernel
theorem d4_14 : decode method_3_code 14 = .ok (.invokestatic 28, 3) := by decide +kernel
theorem d4_17 : decode method_3_code 17 = .ok (.lload_n 1, 1) := by decide +kernel
theorem d4_18 : decode method_3_code 18 = .ok (.invokevirtual 22, 3) := by decide +kernel
theorem d4_21 : decode method_3_code 21 = .ok (.return_, 1) := by decide +kernel
theorem d5_0 : decode prog_42_method_2_code 0 = .ok (.aload_n 0, 1) := by decide +kernel
theorem d5_1 : decode prog_42_method_2_code 1 = .ok (.getfield 17, 3) := by decide +kernel
theorem d5_4 : decode prog_42_method_2_code 4 = .ok (.ifCond .eq 11, 3) := by decide +kernel
theorem d5_7 : decode prog_42_method_2_code 7 = .ok (.aload_n 0, 1) := by decide +kernel
theorem d5_8 : decode prog_42_method_2_code 8 = .ok (.lload_n 2, 1) := by decide +kernel
theorem d5_9 : decode prog_42_method_2_code 9 = .ok (.invokevirtual 21, 3) := by decide +kernel
theorem d5_12 : decode prog_42_method_2_code 12 = .ok (.goto 4, 3) := by decide +kernel
theorem d5_15 : decode prog_42_method_2_code 15 = .ok (.iconst (-1), 1) := by decide +kernel
theorem d5_16 : decode prog_42_method_2_code 16 = .ok (.istore 4, 2) := by decide +kernel
theorem d5_18 : decode prog_42_method_2_code 18 = .ok (.aload_n 1, 1) := by decide +kernel
theorem d5_19 : decode prog_42_method_2_code 19 = .ok (.getstatic 25, 3) := by decide +kernel
theorem d5_22 : decode prog_42_method_2_code 22 = .ok (.if_acmp .ne 129, 3) := by decide +kernel
theorem d5_25 : decode prog_42_method_2_code 25 = .ok (.aload_n 0, 1) := by decide +kernel
theorem d5_26 : decode prog_42_method_2_code 26 = .ok (.dup, 1) := by decide +kernel
theorem d5_27 : decode prog_42_method_2_code 27 = .ok (.getfield 17, 3) := by decide +kernel
theorem d5_30 : decode prog_42_method_2_code 30 = .ok (.aload_n 0, 1) := by decide +kernel
theorem d5_31 : decode prog_42_method_2_code 31 = .ok (.getfield 31, 3) := by decide +kernel
theorem d5_34 : decode prog_42_method_2_code 34 = .ok (.ifCond .eq 19, 3) := by decide +kernel
theorem d5_37 : decode prog_42_method_2_code 37 = .ok (.lload_n 2, 1) := by decide +kernel
theorem d5_38 : decode prog_42_method_2_code 38 = .ok (.aload_n 0, 1) := by decide +kernel
theorem d5_39 : decode prog_42_method_2_code 39 = .ok (.getfield 7, 3) := by decide +kernel
theorem d5_42 : decode prog_42_method_2_code 42 = .ok (.aload_n 0, 1) := by decide +kernel
theorem d5_43 : decode prog_42_method_2_code 43 = .ok (.getfield 31, 3) := by decide +kernel
theorem d5_46 : decode prog_42_method_2_code 46 = .ok (.iconst 1, 1) := by decide +kernel
theorem d5_47 : decode prog_42_method_2_code 47 = .ok (.isub, 1) := by decide +kernel
theorem d5_48 : decode prog_42_method_2_code 48 = .ok (.laload, 1) := by decide +kernel
theorem d5_49 : decode prog_42_method_2_code 49 = .ok (.lcmp, 1) := by decide +kernel
theorem d5_50 : decode prog_42_method_2_code 50 = .ok (.ifCond .le 7, 3) := by decide +kernel
theorem d5_53 : decode prog_42_method_2_code 53 = .ok (.iconst 1, 1) := by decide +kernel
theorem d5_54 : decode prog_42_method_2_code 54 = .ok (.goto 4, 3) := by decide +kernel
theorem d5_57 : decode prog_42_method_2_code 57 = .ok (.iconst 0, 1) := by decide +kernel
theorem d5_58 : decode prog_42_method_2_code 58 = .ok (.iand, 1) := by decide +kernel
theorem d5_59 : decode prog_42_method_2_code 59 = .ok (.putfield 17, 3) := by decide +kernel
theorem d5_62 : decode prog_42_method_2_code 62 = .ok (.aload_n 0, 1) := by decide +kernel
theorem d5_63 : decode prog_42_method_2_code 63 = .ok (.getfield 31, 3) := by decide +kernel
theorem d5_66 : decode prog_42_method_2_code 66 = .ok (.aload_n 0, 1) := by decide +kernel
theorem d5_67 : decode prog_42_method_2_code 67 = .ok (.getfield 7, 3) := by decide +kernel
theorem d5_70 : decode prog_42_method_2_code 70 = .ok (.arraylength, 1) := by decide +kernel
theorem d5_71 : decode prog_42_method_2_code 71 = .ok (.if_icmp .ne 37, 3) := by decide +kernel
theorem d5_108 : decode prog_42_method_2_code 108 = .ok (.aload_n 0, 1) := by decide +kernel
theorem d5_109 : decode prog_42_method_2_code 109 = .ok (.getfield 7, 3) := by decide +kernel
theorem d5_112 : decode prog_42_method_2_code 112 = .ok (.aload_n 0, 1) := by decide +kernel
theorem d5_113 : decode prog_42_method_2_code 113 = .ok (.getfield 31, 3) := by decide +kernel
theorem d5_116 : decode prog_42_method_2_code 116 = .ok (.lload_n 2, 1) := by decide +kernel
theorem d5_117 : decode prog_42_method_2_code 117 = .ok (.lastore, 1) := by decide +kernel
theorem d5_118 : decode prog_42_method_2_code 118 = .ok (.aload_n 0, 1) := by decide +kernel
theorem d5_119 : decode prog_42_method_2_code 119 = .ok (.getfield 13, 3) := by decide +kernel
theorem d5_122 : decode prog_42_method_2_code 122 = .ok (.aload_n 0, 1) := by decide +kernel
theorem d5_123 : decode prog_42_method_2_code 123 = .ok (.getfield 31, 3) := by decide +kernel
theorem d5_126 : decode prog_42_method_2_code 126 = .ok (.iconst 1, 1) := by decide +kernel
theorem d5_127 : decode prog_42_method_2_code 127 = .ok (.iastore, 1) := by decide +kernel
theorem d5_128 : decode prog_42_method_2_code 128 = .ok (.aload_n 0, 1) := by decide +kernel
theorem d5_129 : decode prog_42_method_2_code 129 = .ok (.dup, 1) := by decide +kernel
theorem d5_130 : decode prog_42_method_2_code 130 = .ok (.getfield 31, 3) := by decide +kernel
theorem d5_133 : decode prog_42_method_2_code 133 = .ok (.iconst 1, 1) := by decide +kernel
theorem d5_134 : decode prog_42_method_2_code 134 = .ok (.iadd, 1) := by decide +kernel
theorem d5_135 : decode prog_42_method_2_code 135 = .ok (.putfield 31, 3) := by decide +kernel
theorem d5_138 : decode prog_42_method_2_code 138 = .ok (.aload_n 0, 1) := by decide +kernel
theorem d5_139 : decode prog_42_method_2_code 139 = .ok (.dup, 1) := by decide +kernel
theorem d5_140 : decode prog_42_method_2_code 140 = .ok (.getfield 44, 3) := by decide +kernel
theorem d5_143 : decode prog_42_method_2_code 143 = .ok (.iconst 1, 1) := by decide +kernel
theorem d5_144 : decode prog_42_method_2_code 144 = .ok (.iadd, 1) := by decide +kernel
theorem d5_145 : decode prog_42_method_2_code 145 = .ok (.putfield 44, 3) := by decide +kernel
theorem d5_148 : decode prog_42_method_2_code 148 = .ok (.goto 88, 3) := by decide +kernel
theorem d5_151 : decode prog_42_method_2_code 151 = .ok (.iload 4, 2) := by decide +kernel
theorem d5_153 : decode prog_42_method_2_code 153 = .ok (.ifCond .lt 47, 3) := by decide +kernel
theorem d5_156 : decode prog_42_method_2_code 156 = .ok (.aload_n 0, 1) := by decide +kernel
theorem d5_157 : decode prog_42_method_2_code 157 = .ok (.getfield 13, 3) := by decide +kernel
theorem d5_160 : decode prog_42_method_2_code 160 = .ok (.iload 4, 2) := by decide +kernel
theorem d5_162 : decode prog_42_method_2_code 162 = .ok (.iaload, 1) := by decide +kernel
theorem d5_163 : decode prog_42_method_2_code 163 = .ok (.ifCond .le 37, 3) := by decide +kernel
theorem d5_166 : decode prog_42_method_2_code 166 = .ok (.aload_n 1, 1) := by decide +kernel
theorem d5_167 : decode prog_42_method_2_code 167 = .ok (.getstatic 47, 3) := by decide +kernel
theorem d5_170 : decode prog_42_method_2_code 170 = .ok (.if_acmp .ne 30, 3) := by decide +kernel
theorem d5_173 : decode prog_42_method_2_code 173 = .ok (.aload_n 0, 1) := by decide +kernel
theorem d5_174 : decode prog_42_method_2_code 174 = .ok (.dup, 1) := by decide +kernel
theorem d5_175 : decode prog_42_method_2_code 175 = .ok (.getfield 44, 3) := by decide +kernel
theorem d5_178 : decode prog_42_method_2_code 178 = .ok (.aload_n 0, 1) := by decide +kernel
theorem d5_179 : decode prog_42_method_2_code 179 = .ok (.getfield 13, 3) := by decide +kernel
theorem d5_182 : decode prog_42_method_2_code 182 = .ok (.iload 4, 2) := by decide +kernel
theorem d5_184 : decode prog_42_method_2_code 184 = .ok (.iaload, 1) := by decide +kernel
theorem d5_185 : decode prog_42_method_2_code 185 = .ok (.isub, 1) := by decide +kernel
theorem d5_186 : decode prog_42_method_2_code 186 = .ok (.putfield 44, 3) := by decide +kernel
theorem d5_189 : decode prog_42_method_2_code 189 = .ok (.aload_n 0, 1) := by decide +kernel
theorem d5_190 : decode prog_42_method_2_code 190 = .ok (.getfield 13, 3) := by decide +kernel
theorem d5_193 : decode prog_42_method_2_code 193 = .ok (.iload 4, 2) := by decide +kernel
theorem d5_195 : decode prog_42_method_2_code 195 = .ok (.iconst 0, 1) := by decide +kernel
theorem d5_196 : decode prog_42_method_2_code 196 = .ok (.iastore, 1) := by decide +kernel
theorem d5_197 : decode prog_42_method_2_code 197 = .ok (.goto 39, 3) := by decide +kernel
theorem d5_200 : decode prog_42_method_2_code 200 = .ok (.iload 4, 2) := by decide +kernel
theorem d5_202 : decode prog_42_method_2_code 202 = .ok (.ifCond .lt 24, 3) := by decide +kernel
theorem d5_205 : decode prog_42_method_2_code 205 = .ok (.aload_n 0, 1) := by decide +kernel
theorem d5_206 : decode prog_42_method_2_code 206 = .ok (.getfield 13, 3) := by decide +kernel
theorem d5_209 : decode prog_42_method_2_code 209 = .ok (.iload 4, 2) := by decide +kernel
theorem d5_211 : decode prog_42_method_2_code 211 = .ok (.iaload, 1) := by decide +kernel
theorem d5_212 : decode prog_42_method_2_code 212 = .ok (.ifCond .le 14, 3) := by decide +kernel
theorem d5_215 : decode prog_42_method_2_code 215 = .ok (.aload_n 0, 1) := by decide +kernel
theorem d5_216 : decode prog_42_method_2_code 216 = .ok (.getfield 13, 3) := by decide +kernel
theorem d5_219 : decode prog_42_method_2_code 219 = .ok (.iload 4, 2) := by decide +kernel
theorem d5_221 : decode prog_42_method_2_code 221 = .ok (.dup2, 1) := by decide +kernel
theorem d5_222 : decode prog_42_method_2_code 222 = .ok (.iaload, 1) := by decide +kernel
theorem d5_223 : decode prog_42_method_2_code 223 = .ok (.iconst 1, 1) := by decide +kernel
theorem d5_224 : decode prog_42_method_2_code 224 = .ok (.iadd, 1) := by decide +kernel
theorem d5_225 : decode prog_42_method_2_code 225 = .ok (.iastore, 1) := by decide +kernel
theorem d5_226 : decode prog_42_method_2_code 226 = .ok (.aload_n 0, 1) := by decide +kernel
theorem d5_227 : decode prog_42_method_2_code 227 = .ok (.dup, 1) := by decide +kernel
theorem d5_228 : decode prog_42_method_2_code 228 = .ok (.getfield 44, 3) := by decide +kernel
theorem d5_231 : decode prog_42_method_2_code 231 = .ok (.iconst 1, 1) := by decide +kernel
theorem d5_232 : decode prog_42_method_2_code 232 = .ok (.iadd, 1) := by decide +kernel
theorem d5_233 : decode prog_42_method_2_code 233 = .ok (.putfield 44, 3) := by decide +kernel
theorem d5_236 : decode prog_42_method_2_code 236 = .ok (.aload_n 0, 1) := by decide +kernel
theorem d5_237 : decode prog_42_method_2_code 237 = .ok (.dup, 1) := by decide +kernel
theorem d5_238 : decode prog_42_method_2_code 238 = .ok (.getfield 50, 3) := by decide +kernel
theorem d5_241 : decode prog_42_method_2_code 241 = .ok (.iconst 1, 1) := by decide +kernel
theorem d5_242 : decode prog_42_method_2_code 242 = .ok (.iadd, 1) := by decide +kernel
theorem d5_243 : decode prog_42_method_2_code 243 = .ok (.putfield 50, 3) := by decide +kernel
theorem d5_246 : decode prog_42_method_2_code 246 = .ok (.return_, 1) := by decide +kernel
theorem d6_0 : decode prog_42_method_6_code 0 = .ok (.iconst (-1), 1) := by decide +kernel
theorem d6_1 : decode prog_42_method_6_code 1 = .ok (.istore_n 3, 1) := by decide +kernel
theorem d6_2 : decode prog_42_method_6_code 2 = .ok (.aload_n 0, 1) := by decide +kernel
theorem d6_3 : decode prog_42_method_6_code 3 = .ok (.getfield 31, 3) := by decide +kernel
theorem d6_6 : decode prog_42_method_6_code 6 = .ok (.ifCond .le 104, 3) := by decide +kernel
theorem d6_9 : decode prog_42_method_6_code 9 = .ok (.lload_n 1, 1) := by decide +kernel
theorem d6_10 : decode prog_42_method_6_code 10 = .ok (.aload_n 0, 1) := by decide +kernel
theorem d6_11 : decode prog_42_method_6_code 11 = .ok (.getfield 7, 3) := by decide +kernel
theorem d6_14 : decode prog_42_method_6_code 14 = .ok (.aload_n 0, 1) := by decide +kernel
theorem d6_15 : decode prog_42_method_6_code 15 = .ok (.getfield 31, 3) := by decide +kernel
theorem d6_18 : decode prog_42_method_6_code 18 = .ok (.iconst 1, 1) := by decide +kernel
theorem d6_19 : decode prog_42_method_6_code 19 = .ok (.isub, 1) := by decide +kernel
theorem d6_20 : decode prog_42_method_6_code 20 = .ok (.laload, 1) := by decide +kernel
theorem d6_21 : decode prog_42_method_6_code 21 = .ok (.lcmp, 1) := by decide +kernel
theorem d6_22 : decode prog_42_method_6_code 22 = .ok (.ifCond .gt 88, 3) := by decide +kernel
theorem d6_25 : decode prog_42_method_6_code 25 = .ok (.aload_n 0, 1) := by decide +kernel
theorem d6_26 : decode prog_42_method_6_code 26 = .ok (.getfield 7, 3) := by decide +kernel
theorem d6_29 : decode prog_42_method_6_code 29 = .ok (.aload_n 0, 1) := by decide +kernel
theorem d6_30 : decode prog_42_method_6_code 30 = .ok (.getfield 31, 3) := by decide +kernel
theorem d6_33 : decode prog_42_method_6_code 33 = .ok (.iconst 1, 1) := by decide +kernel
theorem d6_34 : decode prog_42_method_6_code 34 = .ok (.isub, 1) := by decide +kernel
theorem d6_35 : decode prog_42_method_6_code 35 = .ok (.laload, 1) := by decide +kernel
theorem d6_36 : decode prog_42_method_6_code 36 = .ok (.lload_n 1, 1) := by decide +kernel
theorem d6_37 : decode prog_42_method_6_code 37 = .ok (.lsub, 1) := by decide +kernel
theorem d6_38 : decode prog_42_method_6_code 38 = .ok (.lstore 4, 2) := by decide +kernel
theorem d6_40 : decode prog_42_method_6_code 40 = .ok (.lload 4, 2) := by decide +kernel
theorem d6_42 : decode prog_42_method_6_code 42 = .ok (.aload_n 0, 1) := by decide +kernel
theorem d6_43 : decode prog_42_method_6_code 43 = .ok (.getfield 31, 3) := by decide +kernel
theorem d6_46 : decode prog_42_method_6_code 46 = .ok (.i2l, 1) := by decide +kernel
theorem d6_47 : decode prog_42_method_6_code 47 = .ok (.lcmp, 1) := by decide +kernel
theorem d6_48 : decode prog_42_method_6_code 48 = .ok (.ifCond .ge 27, 3) := by decide +kernel
theorem d6_51 : decode prog_42_method_6_code 51 = .ok (.aload_n 0, 1) := by decide +kernel
theorem d6_52 : decode prog_42_method_6_code 52 = .ok (.getfield 7, 3) := by decide +kernel
theorem d6_55 : decode prog_42_method_6_code 55 = .ok (.aload_n 0, 1) := by decide +kernel
theorem d6_56 : decode prog_42_method_6_code 56 = .ok (.getfield 31, 3) := by decide +kernel
theorem d6_59 : decode prog_42_method_6_code 59 = .ok (.iconst 1, 1) := by decide +kernel
theorem d6_60 : decode prog_42_method_6_code 60 = .ok (.isub, 1) := by decide +kernel
theorem d6_61 : decode prog_42_method_6_code 61 = .ok (.lload 4, 2) := by decide +kernel
theorem d6_63 : decode prog_42_method_6_code 63 = .ok (.l2i, 1) := by decide +kernel
theorem d6_64 : decode prog_42_method_6_code 64 = .ok (.isub, 1) := by decide +kernel
theorem d6_65 : decode prog_42_method_6_code 65 = .ok (.laload, 1) := by decide +kernel
theorem d6_66 : decode prog_42_method_6_code 66 = .ok (.lload_n 1, 1) := by decide +kernel
theorem d6_67 : decode prog_42_method_6_code 67 = .ok (.lcmp, 1) := by decide +kernel
theorem d6_68 : decode prog_42_method_6_code 68 = .ok (.ifCond .ne 7, 3) := by decide +kernel
theorem d6_71 : decode prog_42_method_6_code 71 = .ok (.iconst 1, 1) := by decide +kernel
theorem d6_72 : decode prog_42_method_6_code 72 = .ok (.goto 4, 3) := by decide +kernel
theorem d6_75 : decode prog_42_method_6_code 75 = .ok (.iconst 0, 1) := by decide +kernel
theorem d6_76 : decode prog_42_method_6_code 76 = .ok (.istore 6, 2) := by decide +kernel
theorem d6_78 : decode prog_42_method_6_code 78 = .ok (.iload 6, 2) := by decide +kernel
theorem d6_80 : decode prog_42_method_6_code 80 = .ok (.ifCond .eq 16, 3) := by decide +kernel
theorem d6_83 : decode prog_42_method_6_code 83 = .ok (.aload_n 0, 1) := by decide +kernel
theorem d6_84 : decode prog_42_method_6_code 84 = .ok (.getfield 31, 3) := by decide +kernel
theorem d6_87 : decode prog_42_method_6_code 87 = .ok (.iconst 1, 1) := by decide +kernel
theorem d6_88 : decode prog_42_method_6_code 88 = .ok (.isub, 1) := by decide +kernel
theorem d6_89 : decode prog_42_method_6_code 89 = .ok (.lload 4, 2) := by decide +kernel
theorem d6_91 : decode prog_42_method_6_code 91 = .ok (.l2i, 1) := by decide +kernel
theorem d6_92 : decode prog_42_method_6_code 92 = .ok (.isub, 1) := by decide +kernel
theorem d6_93 : decode prog_42_method_6_code 93 = .ok (.goto 16, 3) := by decide +kernel
theorem d6_96 : decode prog_42_method_6_code 96 = .ok (.aload_n 0, 1) := by decide +kernel
theorem d6_97 : decode prog_42_method_6_code 97 = .ok (.getfield 7, 3) := by decide +kernel
theorem d6_100 : decode prog_42_method_6_code 100 = .ok (.iconst 0, 1) := by decide +kernel
theorem d6_101 : decode prog_42_method_6_code 101 = .ok (.aload_n 0, 1) := by decide +kernel
theorem d6_102 : decode prog_42_method_6_code 102 = .ok (.getfield 31, 3) := by decide +kernel
theorem d6_105 : decode prog_42_method_6_code 105 = .ok (.lload_n 1, 1) := by decide +kernel
theorem d6_106 : decode prog_42_method_6_code 106 = .ok (.invokestatic 53, 3) := by decide +kernel
theorem d6_109 : decode prog_42_method_6_code 109 = .ok (.istore_n 3, 1) := by decide +kernel
theorem d6_110 : decode prog_42_method_6_code 110 = .ok (.iload_n 3, 1) := by decide +kernel
theorem d6_111 : decode prog_42_method_6_code 111 = .ok (.ireturn, 1) := by decide +kernel
theorem d7_0 : decode method_2_code 0 = .ok (.iload_n 0, 1) := by decide +kernel
theorem d7_1 : decode method_2_code 1 = .ok (.iconst 1, 1) := by decide +kernel
theorem d7_2 : decode method_2_code 2 = .ok (.if_icmp .ne 7, 3) := by decide +kernel
theorem d7_5 : decode method_2_code 5 = .ok (.getstatic 7, 3) := by decide +kernel
theorem d7_8 : decode method_2_code 8 = .ok (.areturn, 1) := by decide +kernel
theorem d7_9 : decode method_2_code 9 = .ok (.iload_n 0, 1) := by decide +kernel
theorem d7_10 : decode method_2_code 10 = .ok (.iconst 2, 1) := by decide +kernel
theorem d7_11 : decode method_2_code 11 = .ok (.if_icmp .ne 7, 3) := by decide +kernel
theorem d7_14 : decode method_2_code 14 = .ok (.getstatic 13, 3) := by decide +kernel
theorem d7_17 : decode method_2_code 17 = .ok (.areturn, 1) := by decide +kernel
theorem d7_18 : decode method_2_code 18 = .ok (.getstatic 16, 3) := by decide +kernel
theorem d7_21 : decode method_2_code 21 = .ok (.areturn, 1) := by decide +kernel
theorem d8_0 : decode prog_42_method_5_code 0 = .ok (.aload_n 0, 1) := by decide +kernel
theorem d8_1 : decode prog_42_method_5_code 1 = .ok (.getfield 17, 3) := by decide +kernel
theorem d8_4 : decode prog_42_method_5_code 4 = .ok (.ifCond .eq 70, 3) := by decide +kernel
theorem d8_7 : decode prog_42_method_5_code 7 = .ok (.iconst 0, 1) := by decide +kernel
theorem d8_8 : decode prog_42_method_5_code 8 = .ok (.istore_n 1, 1) := by decide +kernel
theorem d8_9 : decode prog_42_method_5_code 9 = .ok (.iconst 0, 1) := by decide +kernel
theorem d8_10 : decode prog_42_method_5_code 10 = .ok (.istore_n 2, 1) := by decide +kernel
theorem d8_11 : decode prog_42_method_5_code 11 = .ok (.iload_n 2, 1) := by decide +kernel
theorem d8_12 : decode prog_42_method_5_code 12 = .ok (.aload_n 0, 1) := by decide +kernel
theorem d8_13 : decode prog_42_method_5_code 13 = .ok (.getfield 31, 3) := by decide +kernel
theorem d8_16 : decode prog_42_method_5_code 16 = .ok (.if_icmp .ge 45, 3) := by decide +kernel
theorem d8_19 : decode prog_42_method_5_code 19 = .ok (.aload_n 0, 1) := by decide +kernel
theorem d8_20 : decode prog_42_method_5_code 20 = .ok (.getfield 13, 3) := by decide +kernel
theorem d8_23 : decode prog_42_method_5_code 23 = .ok (.iload_n 2, 1) := by decide +kernel
theorem d8_24 : decode prog_42_method_5_code 24 = .ok (.iaload, 1) := by decide +kernel
theorem d8_25 : decode prog_42_method_5_code 25 = .ok (.ifCond .le 30, 3) := by decide +kernel
theorem d8_28 : decode prog_42_method_5_code 28 = .ok (.aload_n 0, 1) := by decide +kernel
theorem d8_29 : decode prog_42_method_5_code 29 = .ok (.getfield 7, 3) := by decide +kernel
theorem d8_32 : decode prog_42_method_5_code 32 = .ok (.iload_n 1, 1) := by decide +kernel
theorem d8_33 : decode prog_42_method_5_code 33 = .ok (.aload_n 0, 1) := by decide +kernel
theorem d8_34 : decode prog_42_method_5_code 34 = .ok (.getfield 7, 3) := by decide +kernel
theorem d8_37 : decode prog_42_method_5_code 37 = .ok (.iload_n 2, 1) := by decide +kernel
theorem d8_38 : decode prog_42_method_5_code 38 = .ok (.laload, 1) := by decide +kernel
theorem d8_39 : decode prog_42_method_5_code 39 = .ok (.lastore, 1) := by decide +kernel
theorem d8_40 : decode prog_42_method_5_code 40 = .ok (.aload_n 0, 1) := by decide +kernel
theorem d8_41 : decode prog_42_method_5_code 41 = .ok (.getfield 13, 3) := by decide +kernel
theorem d8_44 : decode prog_42_method_5_code 44 = .ok (.iload_n 1, 1) := by decide +kernel
theorem d8_45 : decode prog_42_method_5_code 45 = .ok (.aload_n 0, 1) := by decide +kernel
theorem d8_46 : decode prog_42_method_5_code 46 = .ok (.getfield 13, 3) := by decide +kernel
theorem d8_49 : decode prog_42_method_5_code 49 = .ok (.iload_n 2, 1) := by decide +kernel
theorem d8_50 : decode prog_42_method_5_code 50 = .ok (.iaload, 1) := by decide +kernel
theorem d8_51 : decode prog_42_method_5_code 51 = .ok (.iastore, 1) := by decide +kernel
theorem d8_52 : decode prog_42_method_5_code 52 = .ok (.iinc 1 1, 3) := by decide +kernel
theorem d8_55 : decode prog_42_method_5_code 55 = .ok (.iinc 2 1, 3) := by decide +kernel
theorem d8_58 : decode prog_42_method_5_code 58 = .ok (.goto (-47), 3) := by decide +kernel
theorem d8_61 : decode prog_42_method_5_code 61 = .ok (.aload_n 0, 1) := by decide +kernel
theorem d8_62 : decode prog_42_method_5_code 62 = .ok (.iload_n 1, 1) := by decide +kernel
theorem d8_63 : decode prog_42_method_5_code 63 = .ok (.putfield 31, 3) := by decide +kernel
theorem d8_66 : decode prog_42_method_5_code 66 = .ok (.aload_n 0, 1) := by decide +kernel
theorem d8_67 : decode prog_42_method_5_code 67 = .ok (.aload_n 0, 1) := by decide +kernel
theorem d8_68 : decode prog_42_method_5_code 68 = .ok (.getfield 44, 3) := by decide +kernel
theorem d8_71 : decode prog_42_method_5_code 71 = .ok (.putfield 50, 3) := by decide +kernel
theorem d8_74 : decode prog_42_method_5_code 74 = .ok (.return_, 1) := by decide +kernel
theorem d9_0 : decode prog_42_method_3_code 0 = .ok (.aload_n 0, 1) := by decide +kernel
theorem d9_1 : decode prog_42_method_3_code 1 = .ok (.getfield 17, 3) := by decide +kernel
theorem d9_4 : decode prog_42_method_3_code 4 = .ok (.ifCond .eq 10, 3) := by decide +kernel
theorem d9_7 : decode prog_42_method_3_code 7 = .ok (.aload_n 0, 1) := by decide +kernel
theorem d9_8 : decode prog_42_method_3_code 8 = .ok (.getfield 44, 3) := by decide +kernel
theorem d9_11 : decode prog_42_method_3_code 11 = .ok (.goto 7, 3) := by decide +kernel
theorem d9_14 : decode prog_42_method_3_code 14 = .ok (.aload_n 0, 1) := by decide +kernel
theorem d9_15 : decode prog_42_method_3_code 15 = .ok (.getfield 50, 3) := by decide +kernel
theorem d9_18 : decode prog_42_method_3_code 18 = .ok (.ireturn, 1) := by decide +kernel
theorem d10_0 : decode prog_42_method_4_code 0 = .ok (.aload_n 0, 1) := by decide +kernel
theorem d10_1 : decode prog_42_method_4_code 1 = .ok (.getfield 17, 3) := by decide +kernel
theorem d10_4 : decode prog_42_method_4_code 4 = .ok (.ifCond .eq 10, 3) := by decide +kernel
theorem d10_7 : decode prog_42_method_4_code 7 = .ok (.aload_n 0, 1) := by decide +kernel
theorem d10_8 : decode prog_42_method_4_code 8 = .ok (.getfield 31, 3) := by decide +kernel
theorem d10_11 : decode prog_42_method_4_code 11 = .ok (.goto 4, 3) := by decide +kernel
theorem d10_14 : decode prog_42_method_4_code 14 = .ok (.iconst 0, 1) := by decide +kernel
theorem d10_15 : decode prog_42_method_4_code 15 = .ok (.newarray .long, 2) := by decide +kernel
theorem d10_17 : decode prog_42_method_4_code 17 = .ok (.astore_n 1, 1) := by decide +kernel
theorem d10_18 : decode prog_42_method_4_code 18 = .ok (.iconst 0, 1) := by decide +kernel
theorem d10_19 : decode prog_42_method_4_code 19 = .ok (.istore_n 2, 1) := by decide +kernel
theorem d10_20 : decode prog_42_method_4_code 20 = .ok (.iconst 0, 1) := by decide +kernel
theorem d10_21 : decode prog_42_method_4_code 21 = .ok (.istore_n 3, 1) := by decide +kernel
theorem d10_22 : decode prog_42_method_4_code 22 = .ok (.iload_n 3, 1) := by decide +kernel
theorem d10_23 : decode prog_42_method_4_code 23 = .ok (.aload_n 1, 1) := by decide +kernel
theorem d10_24 : decode prog_42_method_4_code 24 = .ok (.arraylength, 1) := by decide +kernel
theorem d10_25 : decode prog_42_method_4_code 25 = .ok (.if_icmp .ge 30, 3) := by decide +kernel
theorem d10_28 : decode prog_42_method_4_code 28 = .ok (.aload_n 0, 1) := by decide +kernel
theorem d10_29 : decode prog_42_method_4_code 29 = .ok (.getfield 13, 3) := by decide +kernel
theorem d10_32 : decode prog_42_method_4_code 32 = .ok (.iload_n 3, 1) := by decide +kernel
theorem d10_33 : decode prog_42_method_4_code 33 = .ok (.iaload, 1) := by decide +kernel
theorem d10_34 : decode prog_42_method_4_code 34 = .ok (.ifCond .ne 15, 3) := by decide +kernel
theorem d10_37 : decode prog_42_method_4_code 37 = .ok (.aload_n 1, 1) := by decide +kernel
theorem d10_38 : decode prog_42_method_4_code 38 = .ok (.iload_n 2, 1) := by decide +kernel
theorem d10_39 : decode prog_42_method_4_code 39 = .ok (.iinc 2 1, 3) := by decide +kernel
theorem d10_42 : decode prog_42_method_4_code 42 = .ok (.aload_n 0, 1) := by decide +kernel
theorem d10_43 : decode prog_42_method_4_code 43 = .ok (.getfield 7, 3) := by decide +kernel
theorem d10_46 : decode prog_42_method_4_code 46 = .ok (.iload_n 3, 1) := by decide +kernel
theorem d10_47 : decode prog_42_method_4_code 47 = .ok (.laload, 1) := by decide +kernel
theorem d10_48 : decode prog_42_method_4_code 48 = .ok (.lastore, 1) := by decide +kernel
theorem d10_49 : decode prog_42_method_4_code 49 = .ok (.iinc 3 1, 3) := by decide +kernel
theorem d10_52 : decode prog_42_method_4_code 52 = .ok (.goto (-30), 3) := by decide +kernel
theorem d10_55 : decode prog_42_method_4_code 55 = .ok (.aload_n 1, 1) := by decide +kernel
theorem d10_56 : decode prog_42_method_4_code 56 = .ok (.iload_n 2, 1) := by decide +kernel
theorem d10_57 : decode prog_42_method_4_code 57 = .ok (.invokestatic 35, 3) := by decide +kernel
theorem d10_60 : decode prog_42_method_4_code 60 = .ok (.areturn, 1) := by decide +kernel
theorem d11_0 : decode jdk_65_method_124_code 0 = .ok (.iload_n 1, 1) := by decide +kernel
theorem d11_1 : decode jdk_65_method_124_code 1 = .ok (.aload_n 0, 1) := by decide +kernel
theorem d11_2 : decode jdk_65_method_124_code 2 = .ok (.arraylength, 1) := by decide +kernel
theorem d11_3 : decode jdk_65_method_124_code 3 = .ok (.if_icmp .ne 11, 3) := by decide +kernel
theorem d11_6 : decode jdk_65_method_124_code 6 = .ok (.aload_n 0, 1) := by decide +kernel
theorem d11_7 : decode jdk_65_method_124_code 7 = .ok (.invokevirtual 319, 3) := by decide +kernel
theorem d11_10 : decode jdk_65_method_124_code 10 = .ok (.checkcast 320, 3) := by decide +kernel
theorem d11_13 : decode jdk_65_method_124_code 13 = .ok (.areturn, 1) := by decide +kernel
theorem d11_14 : decode jdk_65_method_124_code 14 = .ok (.iload_n 1, 1) := by decide +kernel
theorem d11_15 : decode jdk_65_method_124_code 15 = .ok (.newarray .long, 2) := by decide +kernel
theorem d11_17 : decode jdk_65_method_124_code 17 = .ok (.astore_n 2, 1) := by decide +kernel
theorem d11_18 : decode jdk_65_method_124_code 18 = .ok (.aload_n 0, 1) := by decide +kernel
theorem d11_19 : decode jdk_65_method_124_code 19 = .ok (.iconst 0, 1) := by decide +kernel
theorem d11_20 : decode jdk_65_method_124_code 20 = .ok (.aload_n 2, 1) := by decide +kernel
theorem d11_21 : decode jdk_65_method_124_code 21 = .ok (.iconst 0, 1) := by decide +kernel
theorem d11_22 : decode jdk_65_method_124_code 22 = .ok (.aload_n 0, 1) := by decide +kernel
theorem d11_23 : decode jdk_65_method_124_code 23 = .ok (.arraylength, 1) := by decide +kernel
theorem d11_24 : decode jdk_65_method_124_code 24 = .ok (.iload_n 1, 1) := by decide +kernel
theorem d11_25 : decode jdk_65_method_124_code 25 = .ok (.invokestatic 304, 3) := by decide +kernel
theorem d11_28 : decode jdk_65_method_124_code 28 = .ok (.invokestatic 150, 3) := by decide +kernel
theorem d11_31 : decode jdk_65_method_124_code 31 = .ok (.aload_n 2, 1) := by decide +kernel
theorem d11_32 : decode jdk_65_method_124_code 32 = .ok (.areturn, 1) := by decide +kernel
theorem d12_0 : decode jdk_29_method_69_code 0 = .ok (.iload_n 0, 1) := by decide +kernel
theorem d12_1 : decode jdk_29_method_69_code 1 = .ok (.iload_n 1, 1) := by decide +kernel
theorem d12_2 : decode jdk_29_method_69_code 2 = .ok (.if_icmp .gt 7, 3) := by decide +kernel
theorem d12_5 : decode jdk_29_method_69_code 5 = .ok (.iload_n 0, 1) := by decide +kernel
theorem d12_6 : decode jdk_29_method_69_code 6 = .ok (.goto 4, 3) := by decide +kernel
theorem d12_9 : decode jdk_29_method_69_code 9 = .ok (.iload_n 1, 1) := by decide +kernel
theorem d12_10 : decode jdk_29_method_69_code 10 = .ok (.ireturn, 1) := by decide +kernel
theorem d13_0 : decode jdk_65_method_55_code 0 = .ok (.aload_n 0, 1) := by decide +kernel
theorem d13_1 : decode jdk_65_method_55_code 1 = .ok (.arraylength, 1) := by decide +kernel
theorem d13_2 : decode jdk_65_method_55_code 2 = .ok (.iload_n 1, 1) := by decide +kernel
theorem d13_3 : decode jdk_65_method_55_code 3 = .ok (.iload_n 2, 1) := by decide +kernel
theorem d13_4 : decode jdk_65_method_55_code 4 = .ok (.invokestatic 13, 3) := by decide +kernel
theorem d13_7 : decode jdk_65_method_55_code 7 = .ok (.aload_n 0, 1) := by decide +kernel
theorem d13_8 : decode jdk_65_method_55_code 8 = .ok (.iload_n 1, 1) := by decide +kernel
theorem d13_9 : decode jdk_65_method_55_code 9 = .ok (.iload_n 2, 1) := by decide +kernel
theorem d13_10 : decode jdk_65_method_55_code 10 = .ok (.lload_n 3, 1) := by decide +kernel
theorem d13_11 : decode jdk_65_method_55_code 11 = .ok (.invokestatic 205, 3) := by decide +kernel
theorem d13_14 : decode jdk_65_method_55_code 14 = .ok (.ireturn, 1) := by decide +kernel
theorem d14_0 : decode jdk_65_method_30_code 0 = .ok (.iload_n 1, 1) := by decide +kernel
theorem d14_1 : decode jdk_65_method_30_code 1 = .ok (.iload_n 2, 1) := by decide +kernel
theorem d14_2 : decode jdk_65_method_30_code 2 = .ok (.if_icmp .le 44, 3) := by decide +kernel
theorem d14_46 : decode jdk_65_method_30_code 46 = .ok (.iload_n 1, 1) := by decide +kernel
theorem d14_47 : decode jdk_65_method_30_code 47 = .ok (.ifCond .ge 12, 3) := by decide +kernel
theorem d14_59 : decode jdk_65_method_30_code 59 = .ok (.iload_n 2, 1) := by decide +kernel
theorem d14_60 : decode jdk_65_method_30_code 60 = .ok (.iload_n 0, 1) := by decide +kernel
theorem d14_61 : decode jdk_65_method_30_code 61 = .ok (.if_icmp .le 12, 3) := by decide +kernel
theorem d14_73 : decode jdk_65_method_30_code 73 = .ok (.return_, 1) := by decide +kernel
theorem d15_0 : decode jdk_65_method_56_code 0 = .ok (.iload_n 1, 1) := by decide +kernel
theorem d15_1 : decode jdk_65_method_56_code 1 = .ok (.istore 5, 2) := by decide +kernel
theorem d15_3 : decode jdk_65_method_56_code 3 = .ok (.iload_n 2, 1) := by decide +kernel
theorem d15_4 : decode jdk_65_method_56_code 4 = .ok (.iconst 1, 1) := by decide +kernel
theorem d15_5 : decode jdk_65_method_56_code 5 = .ok (.isub, 1) := by decide +kernel
theorem d15_6 : decode jdk_65_method_56_code 6 = .ok (.istore 6, 2) := by decide +kernel
theorem d15_8 : decode jdk_65_method_56_code 8 = .ok (.iload 5, 2) := by decide +kernel
theorem d15_10 : decode jdk_65_method_56_code 10 = .ok (.iload 6, 2) := by decide +kernel
theorem d15_12 : decode jdk_65_method_56_code 12 = .ok (.if_icmp .gt 56, 3) := by decide +kernel
theorem d15_15 : decode jdk_65_method_56_code 15 = .ok (.iload 5, 2) := by decide +kernel
theorem d15_17 : decode jdk_65_method_56_code 17 = .ok (.iload 6, 2) := by decide +kernel
theorem d15_19 : decode jdk_65_method_56_code 19 = .ok (.iadd, 1) := by decide +kernel
theorem d15_20 : decode jdk_65_method_56_code 20 = .ok (.iconst 1, 1) := by decide +kernel
theorem d15_21 : decode jdk_65_method_56_code 21 = .ok (.iushr, 1) := by decide +kernel
theorem d15_22 : decode jdk_65_method_56_code 22 = .ok (.istore 7, 2) := by decide +kernel
theorem d15_24 : decode jdk_65_method_56_code 24 = .ok (.aload_n 0, 1) := by decide +kernel
theorem d15_25 : decode jdk_65_method_56_code 25 = .ok (.iload 7, 2) := by decide +kernel
theorem d15_27 : decode jdk_65_method_56_code 27 = .ok (.laload, 1) := by decide +kernel
theorem d15_28 : decode jdk_65_method_56_code 28 = .ok (.lstore 8, 2) := by decide +kernel
theorem d15_30 : decode jdk_65_method_56_code 30 = .ok (.lload 8, 2) := by decide +kernel
theorem d15_32 : decode jdk_65_method_56_code 32 = .ok (.lload_n 3, 1) := by decide +kernel
theorem d15_33 : decode jdk_65_method_56_code 33 = .ok (.lcmp, 1) := by decide +kernel
theorem d15_34 : decode jdk_65_method_56_code 34 = .ok (.ifCond .ge 12, 3) := by decide +kernel
theorem d15_37 : decode jdk_65_method_56_code 37 = .ok (.iload 7, 2) := by decide +kernel
theorem d15_39 : decode jdk_65_method_56_code 39 = .ok (.iconst 1, 1) := by decide +kernel
theorem d15_40 : decode jdk_65_method_56_code 40 = .ok (.iadd, 1) := by decide +kernel
theorem d15_41 : decode jdk_65_method_56_code 41 = .ok (.istore 5, 2) := by decide +kernel
theorem d15_43 : decode jdk_65_method_56_code 43 = .ok (.goto 22, 3) := by decide +kernel
theorem d15_46 : decode jdk_65_method_56_code 46 = .ok (.lload 8, 2) := by decide +kernel
theorem d15_48 : decode jdk_65_method_56_code 48 = .ok (.lload_n 3, 1) := by decide +kernel
theorem d15_49 : decode jdk_65_method_56_code 49 = .ok (.lcmp, 1) := by decide +kernel
theorem d15_50 : decode jdk_65_method_56_code 50 = .ok (.ifCond .le 12, 3) := by decide +kernel
theorem d15_53 : decode jdk_65_method_56_code 53 = .ok (.iload 7, 2) := by decide +kernel
theorem d15_55 : decode jdk_65_method_56_code 55 = .ok (.iconst 1, 1) := by decide +kernel
theorem d15_56 : decode jdk_65_method_56_code 56 = .ok (.isub, 1) := by decide +kernel
theorem d15_57 : decode jdk_65_method_56_code 57 = .ok (.istore 6, 2) := by decide +kernel
theorem d15_59 : decode jdk_65_method_56_code 59 = .ok (.goto 6, 3) := by decide +kernel
theorem d15_62 : decode jdk_65_method_56_code 62 = .ok (.iload 7, 2) := by decide +kernel
theorem d15_64 : decode jdk_65_method_56_code 64 = .ok (.ireturn, 1) := by decide +kernel
theorem d15_65 : decode jdk_65_method_56_code 65 = .ok (.goto (-57), 3) := by decide +kernel
theorem d15_68 : decode jdk_65_method_56_code 68 = .ok (.iload 5, 2) := by decide +kernel
theorem d15_70 : decode jdk_65_method_56_code 70 = .ok (.iconst 1, 1) := by decide +kernel
theorem d15_71 : decode jdk_65_method_56_code 71 = .ok (.iadd, 1) := by decide +kernel
theorem d15_72 : decode jdk_65_method_56_code 72 = .ok (.ineg, 1) := by decide +kernel
theorem d15_73 : decode jdk_65_method_56_code 73 = .ok (.ireturn, 1) := by decide +kernel
theorem pd0 : parseMethodDescriptor "(III)V" = some ⟨[.int, .int, .int], none⟩ := by decide +kernel
theorem pd1 : parseMethodDescriptor "([JIIJ)I" = some ⟨[(.array .long), .int, .int, .long], some .int⟩ := by decide +kernel
theorem pd2 : parseMethodDescriptor "(J)I" = some ⟨[.long], some .int⟩ := by decide +kernel
theorem pd3 : parseMethodDescriptor "(II)I" = some ⟨[.int, .int], some .int⟩ := by decide +kernel
theorem pd4 : parseMethodDescriptor "([JI)[J" = some ⟨[(.array .long), .int], some (.array .long)⟩ := by decide +kernel
theorem pd5 : parseMethodDescriptor "(Lcom/example/nuthatch/nuthatch/store/ChangeRecord$Kind;J)V" = some ⟨[(.object "com/example/nuthatch/nuthatch/store/ChangeRecord$Kind"), .long], none⟩ := by decide +kernel
theorem pd6 : parseMethodDescriptor "(I)Lcom/example/nuthatch/nuthatch/store/ChangeRecord$Kind;" = some ⟨[.int], some (.object "com/example/nuthatch/nuthatch/store/ChangeRecord$Kind")⟩ := by decide +kernel
theorem pd7 : parseMethodDescriptor "(I)I" = some ⟨[.int], some .int⟩ := by decide +kernel
theorem pd8 : parseMethodDescriptor "()V" = some ⟨[], none⟩ := by decide +kernel
theorem pd9 : parseMethodDescriptor "()I" = some ⟨[], some .int⟩ := by decide +kernel
theorem pd10 : parseMethodDescriptor "()[J" = some ⟨[], some (.array .long)⟩ := by decide +kernel
theorem pd11 : parseMethodDescriptor "(Lcom/example/nuthatch/nuthatch/store/JournalTally;JI)V" = some ⟨[(.object "com/example/nuthatch/nuthatch/store/JournalTally"), .long, .int], none⟩ := by decide +kernel
theorem pn0 : plainName "java/util/Arrays" = true := by first | (simp [plainName, overriddenIn]; done) | decide +kernel
theorem pn1 : plainName "com/example/nuthatch/nuthatch/store/JournalTally" = true := by first | (simp [plainName, overriddenIn]; done) | decide +kernel
theorem pn2 : plainName "com/example/nuthatch/nuthatch/store/JournalTallyDropPassingPinLaw" = true := by first | (simp [plainName, overriddenIn]; done) | decide +kernel
abbrev rm0 : Room := { frames := 0, cells := 0, slots := 0, locals := 0 }
abbrev rmC : Room := { frames := 1, cells := 2, slots := 128, locals := 16 }
abbrev rmB : Room := { frames := 1, cells := 0, slots := 0, locals := 40 }
abbrev rmCr : Room := { frames := 2, cells := 0, slots := 0, locals := 64 }
abbrev rmAdd : Room := { frames := 3, cells := 0, slots := 0, locals := 96 }
theorem ofNat_toInt {k : Nat} (h : k < 2 ^ 31) : (Int32.ofNat k).toInt = k := Int32.toInt_ofNat_of_lt h
theorem ofNat_inj {i j : Nat} (hi : i < 2 ^ 31) (hj : j < 2 ^ 31) (e : Int32.ofNat i = Int32.ofNat j) : i = j := by
  have := congrArg Int32.toInt e
  rw [ofNat_toInt hi, ofNat_toInt hj] at this
  omega
theorem ofNat_lt {i j : Nat} (hi : i < 2 ^ 31) (hj : j < 2 ^ 31) : Int32.ofNat i < Int32.ofNat j ↔ i < j := by
  rw [Int32.lt_iff_toInt_lt, ofNat_toInt hi, ofNat_toInt hj]; omega
theorem ofNat_add1 (i : Nat) : Int32.ofNat i + 1 = Int32.ofNat (i + 1) := by rw [Int32.ofNat_add]; rfl
theorem ofNat_sub1 {i : Nat} (h : 0 < i) : Int32.ofNat i - 1 = Int32.ofNat (i - 1) := by
  obtain ⟨j, rfl⟩ : ∃ j, i = j + 1 := ⟨i - 1, by omega⟩
  rw [← ofNat_add1, Int32.add_sub_cancel]; rfl
theorem ofNat_nonneg {i : Nat} (h : i < 2 ^ 31) : ¬ Int32.ofNat i < 0 := by
  rw [Int32.lt_iff_toInt_lt, ofNat_toInt h]; have e : (0 : Int32).toInt = 0 := rfl; omega
theorem ushr1 {k : Nat} (h : k < 2 ^ 31) : XT.ushr (Int32.ofNat k) 1 = Int32.ofNat (k / 2) := by
  have e1 : ((1 : Int32) &&& 31).toUInt32 = 1 := by decide
  unfold XT.ushr
  rw [e1]
  apply Int32.toBitVec_inj.mp
  apply BitVec.eq_of_toNat_eq
  simp [Int32.toBitVec_ofNat]
  omega
theorem cmpL_eq (x y : Int64) : XT.cmpL x y = 0 ↔ x = y := by
  unfold XT.cmpL
  by_cases h1 : y < x
  · rw [if_pos h1]; constructor
    · intro q; cases q
    · rintro rfl; exact absurd h1 (Int64.lt_irrefl)
  · rw [if_neg h1]
    by_cases h2 : x = y
    · simp [h2]
    · rw [if_neg h2]; constructor
      · intro q; cases q
      · intro q; exact absurd q h2
theorem cmpL_gt (x y : Int64) : 0 < XT.cmpL x y ↔ y < x := by
  unfold XT.cmpL
  by_cases h1 : y < x
  · simp [h1]
  · rw [if_neg h1]
    by_cases h2 : x = y
    · simp [h2]
    · rw [if_neg h2]; simp [h1]
theorem cmpL_lt (x y : Int64) : XT.cmpL x y < 0 ↔ x < y := by
  unfold XT.cmpL
  by_cases h1 : y < x
  · rw [if_pos h1]; constructor
    · intro q; exact absurd q (by decide)
    · intro q; exact absurd q (Int64.lt_asymm h1)
  · rw [if_neg h1]
    by_cases h2 : x = y
    · subst h2; simp [Int64.lt_irrefl]
    · rw [if_neg h2]
      constructor
      · intro _
        rw [Int64.lt_iff_toInt_lt] at h1 ⊢
        have : x.toInt ≠ y.toInt := fun q => h2 (Int64.toInt_inj.mp q)
        omega
      · intro _; decide
def JF (Z : State) (h : Heap) (a : Addr) (v0 v1 v2 v3 v4 v5 : Value) : Prop := Exa Z h a "com/example/nuthatch/nuthatch/store/JournalTally" ∧ Fld Z h a "com/example/nuthatch/nuthatch/store/JournalTally" "created" "[J" v0 ∧ Fld Z h a "com/example/nuthatch/nuthatch/store/JournalTally" "changes" "[I" v1 ∧ Fld Z h a "com/example/nuthatch/nuthatch/store/JournalTally" "creates" "I" v2 ∧ Fld Z h a "com/example/nuthatch/nuthatch/store/JournalTally" "count" "I" v3 ∧ Fld Z h a "com/example/nuthatch/nuthatch/store/JournalTally" "writes" "I" v4 ∧ Fld Z h a "com/example/nuthatch/nuthatch/store/JournalTally" "ordered" "Z" v5
theorem JF.ext {Z : State} {h h' : Heap} {a : Addr} {v0 v1 v2 v3 v4 v5 : Value} (F : JF Z h a v0 v1 v2 v3 v4 v5) (E : Ext h h') : JF Z h' a v0 v1 v2 v3 v4 v5 := ⟨F.1.ext E, F.2.1.ext E, F.2.2.1.ext E, F.2.2.2.1.ext E, F.2.2.2.2.1.ext E, F.2.2.2.2.2.1.ext E, F.2.2.2.2.2.2.ext E⟩
theorem JF.other {Z : State} {h h' : Heap} {a : Addr} {v0 v1 v2 v3 v4 v5 : Value} {b : Addr} {sl : Nat} {v : Value} (F : JF Z h a v0 v1 v2 v3 v4 v5) (W : Wr h h' b sl v) (ne : a ≠ b) : JF Z h' a v0 v1 v2 v3 v4 v5 := ⟨F.1.wr W, F.2.1.other W (Or.inl ne), F.2.2.1.other W (Or.inl ne), F.2.2.2.1.other W (Or.inl ne), F.2.2.2.2.1.other W (Or.inl ne), F.2.2.2.2.2.1.other W (Or.inl ne), F.2.2.2.2.2.2.other W (Or.inl ne)⟩
theorem JF.keep {Z : State} {h h' : Heap} {a : Addr} {v0 v1 v2 v3 v4 v5 : Value} {ws : List Addr} (F : JF Z h a v0 v1 v2 v3 v4 v5) (K : Keep h h' ws) (ne : a ∉ ws) : JF Z h' a v0 v1 v2 v3 v4 v5 := ⟨F.1.keep K, F.2.1.keep K ne, F.2.2.1.keep K ne, F.2.2.2.1.keep K ne, F.2.2.2.2.1.keep K ne, F.2.2.2.2.2.1.keep K ne, F.2.2.2.2.2.2.keep K ne⟩
theorem JF.w0 {Z : State} {h h' : Heap} {a : Addr} {v0 v1 v2 v3 v4 v5 : Value} {a0 : Array Value} {v : Value} (hw : ∀ d ∈ tables_1, d.before a0 Z = true) (F : JF Z h a v0 v1 v2 v3 v4 v5) (W : Wr h h' a (Jvm.RoadKit.slotOf Z "com/example/nuthatch/nuthatch/store/JournalTally" "created" "[J") v) : JF Z h' a v v1 v2 v3 v4 v5 := ⟨F.1.wr W, F.2.1.same W, F.2.2.1.other W (Or.inr (slot_ne (Or.inl (wd20 hw)) (Or.inl (wd17 hw)) (by decide) (t := (.array .int)) (t' := (.array .long)) (by decide) (by decide))), F.2.2.2.1.other W (Or.inr (slot_ne (Or.inl (wd39 hw)) (Or.inl (wd17 hw)) (by decide) (t := .int) (t' := (.array .long)) (by decide) (by decide))), F.2.2.2.2.1.other W (Or.inr (slot_ne (Or.inl (wd44 hw)) (Or.inl (wd17 hw)) (by decide) (t := .int) (t' := (.array .long)) (by decide) (by decide))), F.2.2.2.2.2.1.other W (Or.inr (slot_ne (Or.inl (wd42 hw)) (Or.inl (wd17 hw)) (by decide) (t := .int) (t' := (.array .long)) (by decide) (by decide))), F.2.2.2.2.2.2.other W (Or.inr (slot_ne (Or.inl (wd22 hw)) (Or.inl (wd17 hw)) (by decide) (t := .boolean) (t' := (.array .long)) (by decide) (by decide)))⟩
theorem JF.w1 {Z : State} {h h' : Heap} {a : Addr} {v0 v1 v2 v3 v4 v5 : Value} {a0 : Array Value} {v : Value} (hw : ∀ d ∈ tables_1, d.before a0 Z = true) (F : JF Z h a v0 v1 v2 v3 v4 v5) (W : Wr h h' a (Jvm.RoadKit.slotOf Z "com/example/nuthatch/nuthatch/store/JournalTally" "changes" "[I") v) : JF Z h' a v0 v v2 v3 v4 v5 := ⟨F.1.wr W, F.2.1.other W (Or.inr (slot_ne (Or.inl (wd17 hw)) (Or.inl (wd20 hw)) (by decide) (t := (.array .long)) (t' := (.array .int)) (by decide) (by decide))), F.2.2.1.same W, F.2.2.2.1.other W (Or.inr (slot_ne (Or.inl (wd39 hw)) (Or.inl (wd20 hw)) (by decide) (t := .int) (t' := (.array .int)) (by decide) (by decide))), F.2.2.2.2.1.other W (Or.inr (slot_ne (Or.inl (wd44 hw)) (Or.inl (wd20 hw)) (by decide) (t := .int) (t' := (.array .int)) (by decide) (by decide))), F.2.2.2.2.2.1.other W (Or.inr (slot_ne (Or.inl (wd42 hw)) (Or.inl (wd20 hw)) (by decide) (t := .int) (t' := (.array .int)) (by decide) (by decide))), F.2.2.2.2.2.2.other W (Or.inr (slot_ne (Or.inl (wd22 hw)) (Or.inl (wd20 hw)) (by decide) (t := .boolean) (t' := (.array .int)) (by decide) (by decide)))⟩
theorem JF.w2 {Z : State} {h h' : Heap} {a : Addr} {v0 v1 v2 v3 v4 v5 : Value} {a0 : Array Value} {v : Value} (hw : ∀ d ∈ tables_1, d.before a0 Z = true) (F : JF Z h a v0 v1 v2 v3 v4 v5) (W : Wr h h' a (Jvm.RoadKit.slotOf Z "com/example/nuthatch/nuthatch/store/JournalTally" "creates" "I") v) : JF Z h' a v0 v1 v v3 v4 v5 := ⟨F.1.wr W, F.2.1.other W (Or.inr (slot_ne (Or.inl (wd17 hw)) (Or.inl (wd39 hw)) (by decide) (t := (.array .long)) (t' := .int) (by decide) (by decide))), F.2.2.1.other W (Or.inr (slot_ne (Or.inl (wd20 hw)) (Or.inl (wd39 hw)) (by decide) (t := (.array .int)) (t' := .int) (by decide) (by decide))), F.2.2.2.1.same W, F.2.2.2.2.1.other W (Or.inr (slot_ne (Or.inl (wd44 hw)) (Or.inl (wd39 hw)) (by decide) (t := .int) (t' := .int) (by decide) (by decide))), F.2.2.2.2.2.1.other W (Or.inr (slot_ne (Or.inl (wd42 hw)) (Or.inl (wd39 hw)) (by decide) (t := .int) (t' := .int) (by decide) (by decide))), F.2.2.2.2.2.2.other W (Or.inr (slot_ne (Or.inl (wd22 hw)) (Or.inl (wd39 hw)) (by decide) (t := .boolean) (t' := .int) (by decide) (by decide)))⟩
theorem JF.w3 {Z : State} {h h' : Heap} {a : Addr} {v0 v1 v2 v3 v4 v5 : Value} {a0 : Array Value} {v : Value} (hw : ∀ d ∈ tables_1, d.before a0 Z = true) (F : JF Z h a v0 v1 v2 v3 v4 v5) (W : Wr h h' a (Jvm.RoadKit.slotOf Z "com/example/nuthatch/nuthatch/store/JournalTally" "count" "I") v) : JF Z h' a v0 v1 v2 v v4 v5 := ⟨F.1.wr W, F.2.1.other W (Or.inr (slot_ne (Or.inl (wd17 hw)) (Or.inl (wd44 hw)) (by decide) (t := (.array .long)) (t' := .int) (by decide) (by decide))), F.2.2.1.other W (Or.inr (slot_ne (Or.inl (wd20 hw)) (Or.inl (wd44 hw)) (by decide) (t := (.array .int)) (t' := .int) (by decide) (by decide))), F.2.2.2.1.other W (Or.inr (slot_ne (Or.inl (wd39 hw)) (Or.inl (wd44 hw)) (by decide) (t := .int) (t' := .int) (by decide) (by decide))), F.2.2.2.2.1.same W, F.2.2.2.2.2.1.other W (Or.inr (slot_ne (Or.inl (wd42 hw)) (Or.inl (wd44 hw)) (by decide) (t := .int) (t' := .int) (by decide) (by decide))), F.2.2.2.2.2.2.other W (Or.inr (slot_ne (Or.inl (wd22 hw)) (Or.inl (wd44 hw)) (by decide) (t := .boolean) (t' := .int) (by decide) (by decide)))⟩
theorem JF.w4 {Z : State} {h h' : Heap} {a : Addr} {v0 v1 v2 v3 v4 v5 : Value} {a0 : Array Value} {v : Value} (hw : ∀ d ∈ tables_1, d.before a0 Z = true) (F : JF Z h a v0 v1 v2 v3 v4 v5) (W : Wr h h' a (Jvm.RoadKit.slotOf Z "com/example/nuthatch/nuthatch/store/JournalTally" "writes" "I") v) : JF Z h' a v0 v1 v2 v3 v v5 := ⟨F.1.wr W, F.2.1.other W (Or.inr (slot_ne (Or.inl (wd17 hw)) (Or.inl (wd42 hw)) (by decide) (t := (.array .long)) (t' := .int) (by decide) (by decide))), F.2.2.1.other W (Or.inr (slot_ne (Or.inl (wd20 hw)) (Or.inl (wd42 hw)) (by decide) (t := (.array .int)) (t' := .int) (by decide) (by decide))), F.2.2.2.1.other W (Or.inr (slot_ne (Or.inl (wd39 hw)) (Or.inl (wd42 hw)) (by decide) (t := .int) (t' := .int) (by decide) (by decide))), F.2.2.2.2.1.other W (Or.inr (slot_ne (Or.inl (wd44 hw)) (Or.inl (wd42 hw)) (by decide) (t := .int) (t' := .int) (by decide) (by decide))), F.2.2.2.2.2.1.same W, F.2.2.2.2.2.2.other W (Or.inr (slot_ne (Or.inl (wd22 hw)) (Or.inl (wd42 hw)) (by decide) (t := .boolean) (t' := .int) (by decide) (by decide)))⟩
theorem JF.w5 {Z : State} {h h' : Heap} {a : Addr} {v0 v1 v2 v3 v4 v5 : Value} {a0 : Array Value} {v : Value} (hw : ∀ d ∈ tables_1, d.before a0 Z = true) (F : JF Z h a v0 v1 v2 v3 v4 v5) (W : Wr h h' a (Jvm.RoadKit.slotOf Z "com/example/nuthatch/nuthatch/store/JournalTally" "ordered" "Z") v) : JF Z h' a v0 v1 v2 v3 v4 v := ⟨F.1.wr W, F.2.1.other W (Or.inr (slot_ne (Or.inl (wd17 hw)) (Or.inl (wd22 hw)) (by decide) (t := (.array .long)) (t' := .boolean) (by decide) (by decide))), F.2.2.1.other W (Or.inr (slot_ne (Or.inl (wd20 hw)) (Or.inl (wd22 hw)) (by decide) (t := (.array .int)) (t' := .boolean) (by decide) (by decide))), F.2.2.2.1.other W (Or.inr (slot_ne (Or.inl (wd39 hw)) (Or.inl (wd22 hw)) (by decide) (t := .int) (t' := .boolean) (by decide) (by decide))), F.2.2.2.2.1.other W (Or.inr (slot_ne (Or.inl (wd44 hw)) (Or.inl (wd22 hw)) (by decide) (t := .int) (t' := .boolean) (by decide) (by decide))), F.2.2.2.2.2.1.other W (Or.inr (slot_ne (Or.inl (wd42 hw)) (Or.inl (wd22 hw)) (by decide) (t := .int) (t' := .boolean) (by decide) (by decide))), F.2.2.2.2.2.2.same W⟩
/-- what is said of the start -/
def Gl (Z : State) (a0 : Array Value) (kc ku kd ka : Addr) : Prop :=
  (∀ d ∈ tables_1, d.before a0 Z = true) ∧ Sta Z Z.heap "com/example/nuthatch/nuthatch/store/ChangeRecord$Kind" "CREATE" "Lcom/example/nuthatch/nuthatch/store/ChangeRecord$Kind;" (.ref kc) ∧ Sta Z Z.heap "com/example/nuthatch/nuthatch/store/ChangeRecord$Kind" "UPDATE" "Lcom/example/nuthatch/nuthatch/store/ChangeRecord$Kind;" (.ref ku) ∧ Sta Z Z.heap "com/example/nuthatch/nuthatch/store/ChangeRecord$Kind" "DELETE" "Lcom/example/nuthatch/nuthatch/store/ChangeRecord$Kind;" (.ref kd) ∧ Sta Z Z.heap "com/example/nuthatch/nuthatch/store/ChangeRecord$Kind" "ASSIGN" "Lcom/example/nuthatch/nuthatch/store/ChangeRecord$Kind;" (.ref ka) ∧ ¬ ku = kc ∧ ¬ kd = kc ∧ ¬ ka = kc ∧ ¬ ku = kd ∧ ¬ ka = kd
/-- the tally at a: created holds cr, changes ch (64 places each) -/
def TY (Z : State) (h : Heap) (n0 : Nat) (a cA xA : Addr) (cr : Nat → Int64) (ch : Nat → Int32) (n : Nat) (cnt wr : Int32) (o : Bool) : Prop :=
  JF Z h a (.ref cA) (.ref xA) (.int (Int32.ofNat n)) (.int cnt) (.int wr) (.int (if o then 1 else 0)) ∧ Av Z h cA .long 64 (fun j => .long (cr j)) ∧ Av Z h xA .int 64 (fun j => .int (ch j)) ∧ n0 ≤ a ∧ n0 ≤ cA ∧ n0 ≤ xA ∧ a ≠ cA ∧ a ≠ xA ∧ cA ≠ xA
theorem TY.ext {Z : State} {h h' : Heap} {n0 : Nat} {a cA xA : Addr} {cr : Nat → Int64} {ch : Nat → Int32} {n : Nat} {cnt wr : Int32} {o : Bool} (T : TY Z h n0 a cA xA cr ch n cnt wr o) (E : Ext h h') : TY Z h' n0 a cA xA cr ch n cnt wr o := ⟨T.1.ext E, T.2.1.ext E, T.2.2.1.ext E, T.2.2.2⟩
theorem TY.keep {Z : State} {h h' : Heap} {n0 : Nat} {a cA xA : Addr} {cr : Nat → Int64} {ch : Nat → Int32} {n : Nat} {cnt wr : Int32} {o : Bool} {ws : List Addr} (T : TY Z h n0 a cA xA cr ch n cnt wr o) (K : Keep h h' ws) (q1 : a ∉ ws) (q2 : cA ∉ ws) (q3 : xA ∉ ws) : TY Z h' n0 a cA xA cr ch n cnt wr o := ⟨T.1.keep K q1, T.2.1.keep K q2, T.2.2.1.keep K q3, T.2.2.2⟩
def upd {α : Type} (f : Nat → α) (i : Nat) (v : α) : Nat → α := fun j => if j = i then v else f j
theorem Av.updJ {Z : State} {h : Heap} {a : Addr} {N i : Nat} {f : Nat → Int64} {v : Int64} (A : Av Z h a .long N (fun j => if j = i then (.long v) else .long (f j))) : Av Z h a .long N (fun j => .long (upd f i v j)) := A.congr fun j _ => by by_cases e : j = i <;> simp [upd, e]
theorem Av.updI {Z : State} {h : Heap} {a : Addr} {N i : Nat} {f : Nat → Int32} {v : Int32} (A : Av Z h a .int N (fun j => if j = i then (.int v) else .int (f j))) : Av Z h a .int N (fun j => .int (upd f i v j)) := A.congr fun j _ => by by_cases e : j = i <;> simp [upd, e]
set_option maxRecDepth 65536 in
set_option maxHeartbeats 40000000 in
theorem c_range (l : Launch) (Z : State) (a0 : Array Value) (kc ku kd ka : Addr) (G : Gl Z a0 kc ku kd ka) (N n : Nat) (hN : N < 2 ^ 31) (hnN : n ≤ N) (hn31 : n < 2 ^ 31) (h0 : Heap) (n0 : Nat) :
    Ctr l Z (⟨"java/util/Arrays", "rangeCheck", "(III)V"⟩ : MethodName) jdk_65_method_30_code 3 none rm0 #[(.int (Int32.ofNat N)), (.int 0), (.int (Int32.ofNat n))] h0 n0 (fun v h => v = none ∧ h0 = h) := by
  have hw := G.1
  refine Ctr.of (n1 := n0) #[.val (.int (Int32.ofNat N)), .val (.int 0), .val (.int (Int32.ofNat n))] (plainFor_of_name pn0) (fun m => by first | (simp [entryFrame, mkF, argsToLocals, Value.category, maxLocals]; done) | rfl) ?_
  intro p e s m below meth c C
  refine g_iloadN C d14_0 (v := 0) rfl (q := 1) rfl ?_
  refine g_iloadN C d14_1 (v := (Int32.ofNat n)) rfl (q := 2) rfl ?_
  refine g_icmp_le C d14_2 (q' := 46) (q := 5) (by decide) (by decide) rfl (fun hy => ?_) (fun hn => absurd hn (ofNat_nonneg hn31))
  refine g_iloadN C d14_46 (v := 0) rfl (q := 47) rfl ?_
  refine g_if_ge C d14_47 (q' := 59) (q := 50) (by decide) (by decide) rfl (fun hy => ?_) (fun hn => absurd hn (by decide))
  refine g_iloadN C d14_59 (v := (Int32.ofNat n)) rfl (q := 60) rfl ?_
  refine g_iloadN C d14_60 (v := (Int32.ofNat N)) rfl (q := 61) rfl ?_
  refine g_icmp_le C d14_61 (q' := 73) (q := 64) (by decide) (by decide) rfl (fun hy => ?_) (fun hn => absurd ((ofNat_lt hN hn31).mp hn) (by omega))
  refine g_return C d14_73 (Nat.le_refl _) (by decide) (by decide) ⟨rfl, rfl⟩
/-- what the three late locals may be at the loop's head -/
def Lt3 (s7 s8 s9 : Slot) : Prop := (s7 = .unset ∧ s8 = .unset ∧ s9 = .unset) ∨ ∃ (x : Int32) (y : Int64), s7 = .val (.int x) ∧ s8 = .val (.long y) ∧ s9 = .second
set_option maxRecDepth 65536 in
set_option maxHeartbeats 40000000 in
theorem loopB {p : Program} {e : Env} {s : State} {m : MethodId} {args : Array Value} {below : List Frame} {meth : Method} {c : Code} (l : Launch) (Z : State) (a0 : Array Value) (kc ku kd ka : Addr) (G : Gl Z a0 kc ku kd ka) (b : Addr) (N n : Nat) (cr : Nat → Int64) (key : Int64) (h0 : Heap) (n0 : Nat) (hN : N < 2 ^ 30) (hnN : n ≤ N) (A0 : Av Z h0 b .long N (fun j => .long (cr j))) (hsort : ∀ i j, i < j → j < n → cr i < cr j) (C : Cx p s m meth c Z "java/util/Arrays" "binarySearch0" jdk_65_method_56_code 10 (some .int)) (d lo hi : Nat) (s7 s8 s9 : Slot) (hd : d = hi - lo) (hl : lo ≤ n) (hh : hi ≤ n) (hlo : ∀ i, i < lo → cr i < key) (hhi : ∀ i, hi ≤ i → i < n → key < cr i) (hs : Lt3 s7 s8 s9) :
    Go p l e rm0 s m args below meth c (FinN s below rm0 n0 (fun v h => h0 = h ∧ ((∃ i, i < n ∧ cr i = key ∧ v = some (.int (Int32.ofNat i))) ∨ (∃ r, v = some (.int r) ∧ r < 0 ∧ ∀ i, i < n → ¬ cr i = key)))) n0 h0 0 0 8 #[.val (.ref b), .val (.int 0), .val (.int (Int32.ofNat n)), .val (.long key), .second, .val (.int (Int32.ofNat lo)), .val (.int (Int32.ofNat hi - 1)), s7, s8, s9] [] := by
  have hw := G.1
  induction d using Nat.strongRecOn generalizing lo hi s7 s8 s9 with
  | ind d ih =>
    refine g_iload C d15_8 (v := (Int32.ofNat lo)) rfl (q := 10) rfl ?_
    refine g_iload C d15_10 (v := (Int32.ofNat hi - 1)) rfl (q := 12) rfl ?_
    refine g_icmp_gt C d15_12 (q' := 68) (q := 15) (by decide) (by decide) rfl (fun hgt => ?_) (fun hle => ?_)
    ·
      refine g_iload C d15_68 (v := (Int32.ofNat lo)) rfl (q := 70) rfl ?_
      refine g_iconst C d15_70 (z := (1 : Int32)) rfl (q := 71) rfl ?_
      refine g_iadd C d15_71 (q := 72) rfl ?_
      refine g_ineg C d15_72 (q := 73) rfl ?_
      have hlh : hi ≤ lo := by
        rcases Nat.eq_zero_or_pos hi with e | e
        · omega
        · rw [ofNat_sub1 e] at hgt
          have := (ofNat_lt (by omega) (by omega)).mp hgt
          omega
      refine g_ireturn C d15_73 (Nat.le_refl _) (Nat.zero_le _) (Nat.zero_le _) ⟨rfl, Or.inr ⟨_, rfl, ?_, fun i hi' => ?_⟩⟩
      · rw [ofNat_add1, Int32.lt_iff_toInt_lt]
        have e0 : (0 : Int32).toInt = 0 := rfl
        have e1 : (Int32.ofNat (lo + 1)).toInt = lo + 1 := by rw [ofNat_toInt (by omega)]; omega
        rw [Int32.toInt_neg, e1, e0]
        have : (-((lo : Int) + 1)).bmod (2 ^ 32) = -((lo : Int) + 1) := by rw [Int.bmod_def]; omega
        omega
      · rcases Nat.lt_or_ge i lo with q | q
        · intro e; have := hlo i q; rw [e] at this; exact absurd this Int64.lt_irrefl
        · intro e; have := hhi i (by omega) hi'; rw [e] at this; exact absurd this Int64.lt_irrefl
    ·
      have hhp : 0 < hi := by
        rcases Nat.eq_zero_or_pos hi with e | e
        · exfalso
          apply hle
          subst e
          rw [Int32.lt_iff_toInt_lt, ofNat_toInt (by omega)]
          have e1 : (Int32.ofNat 0 - 1).toInt = -1 := by decide
          omega
        · exact e
      have hlt : lo < hi := by
        rw [ofNat_sub1 hhp] at hle
        have := Nat.not_lt.mp (fun q => hle ((ofNat_lt (by omega) (by omega)).mpr q))
        omega
      have hm : XT.ushr (Int32.ofNat lo + (Int32.ofNat hi - 1)) 1 = Int32.ofNat ((lo + (hi - 1)) / 2) := by
        rw [ofNat_sub1 hhp, ← Int32.ofNat_add]; exact ushr1 (by omega)
      obtain ⟨mid, hmid⟩ : ∃ mid, mid = (lo + (hi - 1)) / 2 := ⟨_, rfl⟩
      rw [← hmid] at hm
      refine g_iload C d15_15 (v := (Int32.ofNat lo)) rfl (q := 17) rfl ?_
      refine g_iload C d15_17 (v := (Int32.ofNat hi - 1)) rfl (q := 19) rfl ?_
      refine g_iadd C d15_19 (q := 20) rfl ?_
      refine g_iconst C d15_20 (z := (1 : Int32)) rfl (q := 21) rfl ?_
      refine g_iushr C d15_21 (q := 22) rfl ?_
      rw [hm]
      have st7 : ∀ v, storeLocals #[.val (.ref b), .val (.int 0), .val (.int (Int32.ofNat n)), .val (.long key), .second, .val (.int (Int32.ofNat lo)), .val (.int (Int32.ofNat hi - 1)), s7, s8, s9] 7 (.int v) = some #[.val (.ref b), .val (.int 0), .val (.int (Int32.ofNat n)), .val (.long key), .second, .val (.int (Int32.ofNat lo)), .val (.int (Int32.ofNat hi - 1)), .val (.int v), s8, s9] := fun v => by rcases hs with ⟨rfl, rfl, rfl⟩ | ⟨x, y, rfl, rfl, rfl⟩ <;> rfl
      have st8 : ∀ v u, storeLocals #[.val (.ref b), .val (.int 0), .val (.int (Int32.ofNat n)), .val (.long key), .second, .val (.int (Int32.ofNat lo)), .val (.int (Int32.ofNat hi - 1)), .val (.int u), s8, s9] 8 (.long v) = some #[.val (.ref b), .val (.int 0), .val (.int (Int32.ofNat n)), .val (.long key), .second, .val (.int (Int32.ofNat lo)), .val (.int (Int32.ofNat hi - 1)), .val (.int u), .val (.long v), .second] := fun v u => by rcases hs with ⟨rfl, rfl, rfl⟩ | ⟨x, y, rfl, rfl, rfl⟩ <;> rfl
      refine g_istore C d15_22 (L' := #[.val (.ref b), .val (.int 0), .val (.int (Int32.ofNat n)), .val (.long key), .second, .val (.int (Int32.ofNat lo)), .val (.int (Int32.ofNat hi - 1)), .val (.int (Int32.ofNat mid)), s8, s9]) (st7 _) (q := 24) rfl ?_
      refine g_aloadN C d15_24 (v := (.ref b)) rfl rfl (q := 25) rfl ?_
      refine g_iload C d15_25 (v := (Int32.ofNat mid)) rfl (q := 27) rfl ?_
      refine g_laload C d15_27 (i := mid) A0 (by omega) rfl rfl (q := 28) rfl ?_
      refine g_lstore C d15_28 (L' := #[.val (.ref b), .val (.int 0), .val (.int (Int32.ofNat n)), .val (.long key), .second, .val (.int (Int32.ofNat lo)), .val (.int (Int32.ofNat hi - 1)), .val (.int (Int32.ofNat mid)), .val (.long (cr mid)), .second]) (st8 _ _) (q := 30) rfl ?_
      refine g_lload C d15_30 (v := (cr mid)) rfl (q := 32) rfl ?_
      refine g_lloadN C d15_32 (v := key) rfl (q := 33) rfl ?_
      refine g_lcmp C d15_33 (q := 34) rfl ?_
      refine g_if_ge C d15_34 (q' := 46) (q := 37) (by decide) (by decide) rfl (fun hge => ?_) (fun hltk => ?_)
      ·
        refine g_lload C d15_46 (v := (cr mid)) rfl (q := 48) rfl ?_
        refine g_lloadN C d15_48 (v := key) rfl (q := 49) rfl ?_
        refine g_lcmp C d15_49 (q := 50) rfl ?_
        refine g_if_le C d15_50 (q' := 62) (q := 53) (by decide) (by decide) rfl (fun hngt => ?_) (fun hgtk => ?_)
        ·
          refine g_iload C d15_62 (v := (Int32.ofNat mid)) rfl (q := 64) rfl ?_
          refine g_ireturn C d15_64 (Nat.le_refl _) (Nat.zero_le _) (Nat.zero_le _) ⟨rfl, Or.inl ⟨mid, by omega, ?_, rfl⟩⟩
          have q1 : ¬ cr mid < key := fun q => hge ((cmpL_lt _ _).mpr q)
          have q2 : ¬ key < cr mid := fun q => hngt ((cmpL_gt _ _).mpr q)
          rw [Int64.lt_iff_toInt_lt] at q1 q2
          exact Int64.toInt_inj.mp (by omega)
        ·
          refine g_iload C d15_53 (v := (Int32.ofNat mid)) rfl (q := 55) rfl ?_
          refine g_iconst C d15_55 (z := (1 : Int32)) rfl (q := 56) rfl ?_
          refine g_isub C d15_56 (q := 57) rfl ?_
          refine g_istore C d15_57 (L' := #[.val (.ref b), .val (.int 0), .val (.int (Int32.ofNat n)), .val (.long key), .second, .val (.int (Int32.ofNat lo)), .val (.int ((Int32.ofNat mid) - (1 : Int32))), .val (.int (Int32.ofNat mid)), .val (.long (cr mid)), .second]) rfl (q := 59) rfl ?_
          refine g_goto C d15_59 (q := 65) (by decide) (by decide) ?_
          refine g_goto C d15_65 (q := 8) (by decide) (by decide) ?_
          refine ih (mid - lo) (by omega) lo mid _ _ _ rfl (by omega) (by omega) hlo (fun i h1 h2 => ?_) (Or.inr ⟨_, _, rfl, rfl, rfl⟩)
          have q1 : key < cr mid := (cmpL_gt _ _).mp hgtk
          rcases Nat.lt_or_eq_of_le h1 with q | q
          · exact Int64.lt_trans q1 (hsort mid i q h2)
          · rw [← q]; exact q1
      ·
        refine g_iload C d15_37 (v := (Int32.ofNat mid)) rfl (q := 39) rfl ?_
        refine g_iconst C d15_39 (z := (1 : Int32)) rfl (q := 40) rfl ?_
        refine g_iadd C d15_40 (q := 41) rfl ?_
        refine g_istore C d15_41 (L' := #[.val (.ref b), .val (.int 0), .val (.int (Int32.ofNat n)), .val (.long key), .second, .val (.int ((Int32.ofNat mid) + (1 : Int32))), .val (.int (Int32.ofNat hi - 1)), .val (.int (Int32.ofNat mid)), .val (.long (cr mid)), .second]) rfl (q := 43) rfl ?_
        refine g_goto C d15_43 (q := 65) (by decide) (by decide) ?_
        refine g_goto C d15_65 (q := 8) (by decide) (by decide) ?_
        rw [ofNat_add1]
        refine ih (hi - (mid + 1)) (by omega) (mid + 1) hi _ _ _ rfl (by omega) (by omega) (fun i hi' => ?_) hhi (Or.inr ⟨_, _, rfl, rfl, rfl⟩)
        have q1 : cr mid < key := (cmpL_lt _ _).mp hltk
        rcases Nat.lt_or_eq_of_le (Nat.le_of_lt_succ hi') with q | q
        · exact Int64.lt_trans (hsort i mid q (by omega)) q1
        · rw [q]; exact q1
set_option maxRecDepth 65536 in
set_option maxHeartbeats 40000000 in
theorem c_bs0 (l : Launch) (Z : State) (a0 : Array Value) (kc ku kd ka : Addr) (G : Gl Z a0 kc ku kd ka) (b : Addr) (N n : Nat) (cr : Nat → Int64) (key : Int64) (h0 : Heap) (n0 : Nat) (hN : N < 2 ^ 30) (hnN : n ≤ N) (A0 : Av Z h0 b .long N (fun j => .long (cr j))) (hsort : ∀ i j, i < j → j < n → cr i < cr j) :
    Ctr l Z (⟨"java/util/Arrays", "binarySearch0", "([JIIJ)I"⟩ : MethodName) jdk_65_method_56_code 10 (some .int) rm0 #[(.ref b), (.int 0), (.int (Int32.ofNat n)), (.long key)] h0 n0 (fun v h => h0 = h ∧ ((∃ i, i < n ∧ cr i = key ∧ v = some (.int (Int32.ofNat i))) ∨ (∃ r, v = some (.int r) ∧ r < 0 ∧ ∀ i, i < n → ¬ cr i = key))) := by
  have hw := G.1
  refine Ctr.of (n1 := n0) #[.val (.ref b), .val (.int 0), .val (.int (Int32.ofNat n)), .val (.long key), .second, .unset, .unset, .unset, .unset, .unset] (plainFor_of_name pn0) (fun m => by first | (simp [entryFrame, mkF, argsToLocals, Value.category, maxLocals]; done) | rfl) ?_
  intro p e s m below meth c C
  refine g_iloadN C d15_0 (v := 0) rfl (q := 1) rfl ?_
  refine g_istore C d15_1 (L' := #[.val (.ref b), .val (.int 0), .val (.int (Int32.ofNat n)), .val (.long key), .second, .val (.int 0), .unset, .unset, .unset, .unset]) rfl (q := 3) rfl ?_
  refine g_iloadN C d15_3 (v := (Int32.ofNat n)) rfl (q := 4) rfl ?_
  refine g_iconst C d15_4 (z := (1 : Int32)) rfl (q := 5) rfl ?_
  refine g_isub C d15_5 (q := 6) rfl ?_
  refine g_istore C d15_6 (L' := #[.val (.ref b), .val (.int 0), .val (.int (Int32.ofNat n)), .val (.long key), .second, .val (.int 0), .val (.int ((Int32.ofNat n) - (1 : Int32))), .unset, .unset, .unset]) rfl (q := 8) rfl ?_
  exact loopB l Z a0 kc ku kd ka G b N n cr key h0 n0 hN hnN A0 hsort C n 0 n _ _ _ (by omega) (by omega) (by omega) (fun i hi => by omega) (fun i h1 h2 => by omega) (Or.inl ⟨rfl, rfl, rfl⟩)
set_option maxRecDepth 65536 in
set_option maxHeartbeats 40000000 in
theorem c_bs (l : Launch) (Z : State) (a0 : Array Value) (kc ku kd ka : Addr) (G : Gl Z a0 kc ku kd ka) (b : Addr) (N n : Nat) (cr : Nat → Int64) (key : Int64) (h0 : Heap) (n0 : Nat) (hN : N < 2 ^ 30) (hnN : n ≤ N) (A0 : Av Z h0 b .long N (fun j => .long (cr j))) (hsort : ∀ i j, i < j → j < n → cr i < cr j) :
    Ctr l Z (⟨"java/util/Arrays", "binarySearch", "([JIIJ)I"⟩ : MethodName) jdk_65_method_55_code 5 (some .int) rmB #[(.ref b), (.int 0), (.int (Int32.ofNat n)), (.long key)] h0 n0 (fun v h => h0 = h ∧ ((∃ i, i < n ∧ cr i = key ∧ v = some (.int (Int32.ofNat i))) ∨ (∃ r, v = some (.int r) ∧ r < 0 ∧ ∀ i, i < n → ¬ cr i = key))) := by
  have hw := G.1
  refine Ctr.of (n1 := n0) #[.val (.ref b), .val (.int 0), .val (.int (Int32.ofNat n)), .val (.long key), .second] (plainFor_of_name pn0) (fun m => by first | (simp [entryFrame, mkF, argsToLocals, Value.category, maxLocals]; done) | rfl) ?_
  intro p e s m below meth c C
  refine g_aloadN C d13_0 (v := (.ref b)) rfl rfl (q := 1) rfl ?_
  refine g_alen C d13_1 A0 (z := (Int32.ofNat N)) rfl (q := 2) rfl ?_
  refine g_iloadN C d13_2 (v := 0) rfl (q := 3) rfl ?_
  refine g_iloadN C d13_3 (v := (Int32.ofNat n)) rfl (q := 4) rfl ?_
  refine g_callS C (W := 0) (argsL := [(.int (Int32.ofNat N)), (.int 0), (.int (Int32.ofNat n))]) (rest := []) d13_4 (wd83 hw) (wd84 hw) (wd69 hw) (wd85 hw) (by decide) (Ctr.bk (c_range l Z a0 kc ku kd ka G N n (by omega) hnN (by omega) h0 n0) C (wd85 hw) (wd69 hw) (by decide) (by decide)) (by decide) (by decide) rfl (lenOf pd0 rfl) rfl rfl (q := 7) rfl (fun v1 h1 hQ1 => ?_)
  obtain ⟨rfl, rfl⟩ := hQ1
  refine ⟨[], rfl, ?_⟩
  refine g_aloadN C d13_7 (v := (.ref b)) rfl rfl (q := 8) rfl ?_
  refine g_iloadN C d13_8 (v := 0) rfl (q := 9) rfl ?_
  refine g_iloadN C d13_9 (v := (Int32.ofNat n)) rfl (q := 10) rfl ?_
  refine g_lloadN C d13_10 (v := key) rfl (q := 11) rfl ?_
  refine g_callS C (W := 0) (argsL := [(.ref b), (.int 0), (.int (Int32.ofNat n)), (.long key)]) (rest := []) d13_11 (wd86 hw) (wd87 hw) (wd69 hw) (wd88 hw) (by decide) (Ctr.bk (c_bs0 l Z a0 kc ku kd ka G b N n cr key h0 n0 hN hnN A0 hsort) C (wd88 hw) (wd69 hw) (by decide) (by decide)) (by decide) (by decide) rfl (lenOf pd1 rfl) rfl rfl (q := 14) rfl (fun v2 h2 hQ2 => ?_)
  obtain ⟨rfl, hQ⟩ := hQ2
  rcases hQ with ⟨i, h1, h2, rfl⟩ | ⟨r, rfl, h1, h2⟩
  ·
    refine ⟨[(.int (Int32.ofNat i))], rfl, ?_⟩
    refine g_ireturn C d13_14 (Nat.le_refl _) (by decide) (by decide) ⟨rfl, Or.inl ⟨i, h1, h2, rfl⟩⟩
  ·
    refine ⟨[(.int r)], rfl, ?_⟩
    refine g_ireturn C d13_14 (Nat.le_refl _) (by decide) (by decide) ⟨rfl, Or.inr ⟨r, rfl, h1, h2⟩⟩
theorem ofNat_subn {i j : Nat} (h : j ≤ i) : Int32.ofNat i - Int32.ofNat j = Int32.ofNat (i - j) := by
  obtain ⟨d, rfl⟩ : ∃ d, i = d + j := ⟨i - j, by omega⟩
  rw [Int32.ofNat_add, Int32.add_sub_cancel]; simp
theorem back_idx {n : Nat} {last id : Int64} (hn : n < 2 ^ 31) (h1 : ¬ last < id) (hov : last.toInt - id.toInt < 2 ^ 63) (h2 : last - id < (Int32.ofNat n).toInt64) : ∃ b, b < n ∧ (last - id).toInt32 = Int32.ofNat b := by
  rw [Int64.lt_iff_toInt_lt] at h1 h2
  have e1 : (last - id).toInt = last.toInt - id.toInt := by
    rw [Int64.toInt_sub, Int.bmod_def]; omega
  have e2 : (Int32.ofNat n).toInt64.toInt = n := by rw [Int32.toInt_toInt64, ofNat_toInt hn]
  rw [e1, e2] at h2
  refine ⟨(last.toInt - id.toInt).toNat, by omega, ?_⟩
  apply Int32.toInt_inj.mp
  rw [ofNat_toInt (by omega), Int64.toInt_toInt32, e1, Int.bmod_def]
  omega
theorem bool_and (o b : Bool) : ((if o then (1 : Int32) else 0) &&& (if b then (1 : Int32) else 0)) = if (o && b) then 1 else 0 := by cases o <;> cases b <;> rfl
theorem bool_nar (o : Bool) : narrow .boolean (.int (if o then 1 else 0)) = .int (if o then 1 else 0) := by cases o <;> rfl
theorem bool_fit (o : Bool) : fits .boolean (.int (if o then 1 else 0)) = true := by cases o <;> rfl
theorem bool_z (o : Bool) : (if o then (1 : Int32) else 0) = 0 ↔ o = false := by cases o <;> simp
/-- what creation answers -/
def YR (o : Bool) (cr : Nat → Int64) (n : Nat) (id : Int64) (r : Int32) : Prop := (o = true ∧ ∃ i, i < n ∧ cr i = id ∧ r = Int32.ofNat i) ∨ (r < 0 ∧ (o = false ∨ ∀ i, i < n → ¬ cr i = id))
/-- what add makes of the tally -/
def MA (kc kd kv : Addr) (id : Int64) (cr : Nat → Int64) (ch : Nat → Int32) (n : Nat) (wr : Int32) (o : Bool) (cr' : Nat → Int64) (ch' : Nat → Int32) (n' : Nat) (wr' : Int32) (o' : Bool) : Prop :=
  (kv = kc ∧ cr' = upd cr n id ∧ ch' = upd ch n 1 ∧ n' = n + 1 ∧ wr' = wr + 1 ∧ o' = (o && (n == 0 || decide (cr (n - 1) < id)))) ∨
  (¬ kv = kc ∧ cr' = cr ∧ n' = n ∧ o' = o ∧
    ((kv = kd ∧ o = true ∧ ∃ i, i < n ∧ cr i = id ∧ 0 < ch i ∧ ch' = upd ch i 0 ∧ wr' = wr - ch i) ∨
     (¬ kv = kd ∧ o = true ∧ ∃ i, i < n ∧ cr i = id ∧ 0 < ch i ∧ ch' = upd ch i (ch i + 1) ∧ wr' = wr + 1) ∨
     ((o = false ∨ (∀ i, i < n → ¬ cr i = id) ∨ ∃ i, i < n ∧ cr i = id ∧ ¬ 0 < ch i) ∧ ch' = ch ∧ wr' = wr + 1)))
set_option maxRecDepth 65536 in
set_option maxHeartbeats 40000000 in
theorem c_tinit (l : Launch) (Z : State) (a0 : Array Value) (kc ku kd ka : Addr) (G : Gl Z a0 kc ku kd ka) (a : Addr) (o1 o2 : Value) (h0 : Heap) (n0 : Nat) (Z0 : n0 ≤ h0.size) (ga : n0 ≤ a) (lta : a < h0.size) (F : JF Z h0 a o1 o2 (.int 0) (.int 0) (.int 0) (.int 0)) :
    Ctr l Z (⟨"com/example/nuthatch/nuthatch/store/JournalTally", "<init>", "()V"⟩ : MethodName) prog_42_method_1_code 1 none rmC #[(.ref a)] h0 n0 (fun v h => v = none ∧ Keep h0 h [a] ∧ ∃ cA xA, h0.size ≤ cA ∧ h0.size ≤ xA ∧ TY Z h n0 a cA xA (fun _ => 0) (fun _ => 0) 0 0 0 true) := by
  have hw := G.1
  refine Ctr.of (n1 := n0) #[.val (.ref a)] (plainFor_of_name pn1) (fun m => by first | (simp [entryFrame, mkF, argsToLocals, Value.category, maxLocals]; done) | rfl) ?_
  intro p e s m below meth c C
  refine g_aloadN C d2_0 (v := (.ref a)) rfl rfl (q := 1) rfl ?_
  refine g_initO C d2_1 (wd12 hw) (wd13 hw) (wd14 hw) rfl (by decide) (W := 0) rfl (by decide) (q := 4) rfl ?_
  refine g_aloadN C d2_4 (v := (.ref a)) rfl rfl (q := 5) rfl ?_
  refine g_bipush C d2_5 (z := (64 : Int32)) rfl (q := 7) rfl ?_
  refine g_newarray C d2_7 (wd15 hw) (by decide) (cap := 64) (by decide) (by decide) (by decide) (by decide) (q := 9) rfl (fun b1 h1 k1 q1 E1 A1 => ?_)
  have B1 : Av Z h1 b1 .long 64 (fun j => .long ((fun _ => 0) j)) := Av.new A1 (by decide)
  have lt1 := B1.lt
  have F := F.ext E1
  have g1 : n0 ≤ b1 := by rw [q1]; exact Z0
  have d1 : a ≠ b1 := by rw [q1]; exact Nat.ne_of_lt lta
  refine g_putf C d2_9 (host := "") (Or.inl (wd16 hw)) Via.refl F.2.1 F.1 (Or.inl (wd17 hw)) (wd7 hw) (ty := (.array .long)) (by decide) rfl rfl ga (q := 12) rfl (fun h2 W2 => ?_)
  have F := F.w0 hw W2
  have B1 := B1.other W2 (Ne.symm d1)
  refine g_aloadN C d2_12 (v := (.ref a)) rfl rfl (q := 13) rfl ?_
  refine g_bipush C d2_13 (z := (64 : Int32)) rfl (q := 15) rfl ?_
  refine g_newarray C d2_15 (wd18 hw) (by decide) (cap := 64) (by decide) (by decide) (by decide) (by decide) (q := 17) rfl (fun b2 h3 k3 q3 E3 A3 => ?_)
  have B2 : Av Z h3 b2 .int 64 (fun j => .int ((fun _ => 0) j)) := Av.new A3 (by decide)
  have F := F.ext E3
  have B1 := B1.ext E3
  have g2 : n0 ≤ b2 := by rw [q3, W2.size]; exact Nat.le_trans Z0 E1.1
  have d2 : a ≠ b2 := by rw [q3, W2.size]; exact Nat.ne_of_lt (Nat.lt_of_lt_of_le lta E1.1)
  have d3 : b1 ≠ b2 := by rw [q3, W2.size]; exact Nat.ne_of_lt lt1
  refine g_putf C d2_17 (host := "") (Or.inl (wd19 hw)) Via.refl F.2.2.1 F.1 (Or.inl (wd20 hw)) (wd7 hw) (ty := (.array .int)) (by decide) rfl rfl ga (q := 20) rfl (fun h4 W4 => ?_)
  have F := F.w1 hw W4
  have B1 := B1.other W4 (Ne.symm d1)
  have B2 := B2.other W4 (Ne.symm d2)
  refine g_aloadN C d2_20 (v := (.ref a)) rfl rfl (q := 21) rfl ?_
  refine g_iconst C d2_21 (z := (1 : Int32)) rfl (q := 22) rfl ?_
  refine g_putf C d2_22 (host := "") (Or.inl (wd21 hw)) Via.refl F.2.2.2.2.2.2 F.1 (Or.inl (wd22 hw)) (wd7 hw) (ty := .boolean) (by decide) rfl rfl ga (q := 25) rfl (fun h5 W5 => ?_)
  have F := F.w5 hw W5
  have B1 := B1.other W5 (Ne.symm d1)
  have B2 := B2.other W5 (Ne.symm d2)
  have K5 : Keep h0 h5 [a] := ((((Ext.kp E1 [a]).wr W2 (Or.inl (by simp))).ext E3).wr W4 (Or.inl (by simp))).wr W5 (Or.inl (by simp))
  refine g_return C d2_25 (Nat.le_refl _) (by decide) (by decide) ⟨rfl, K5, b1, b2, by rw [q1]; exact Nat.le_refl _, by rw [q3, W2.size]; exact E1.1, F, B1, B2, ga, g1, g2, d1, d2, d3⟩
set_option maxRecDepth 65536 in
set_option maxHeartbeats 40000000 in
theorem c_writes (l : Launch) (Z : State) (a0 : Array Value) (kc ku kd ka : Addr) (G : Gl Z a0 kc ku kd ka) (a cA xA : Addr) (cr : Nat → Int64) (ch : Nat → Int32) (n : Nat) (cnt wr : Int32) (o : Bool) (h0 : Heap) (n0 : Nat) (T : TY Z h0 n0 a cA xA cr ch n cnt wr o) :
    Ctr l Z (⟨"com/example/nuthatch/nuthatch/store/JournalTally", "writes", "()I"⟩ : MethodName) prog_42_method_3_code 1 (some .int) rm0 #[(.ref a)] h0 n0 (fun v h => h0 = h ∧ v = some (.int (if o then wr else cnt))) := by
  have hw := G.1
  obtain ⟨F, -⟩ := T
  refine Ctr.of (n1 := n0) #[.val (.ref a)] (plainFor_of_name pn1) (fun m => by first | (simp [entryFrame, mkF, argsToLocals, Value.category, maxLocals]; done) | rfl) ?_
  intro p e s m below meth c C
  refine g_aloadN C d9_0 (v := (.ref a)) rfl rfl (q := 1) rfl ?_
  refine g_getf C d9_1 (host := "") (Or.inl (wd21 hw)) Via.refl F.2.2.2.2.2.2 (q := 4) rfl ?_
  refine g_if_eq C d9_4 (q' := 14) (q := 7) (by decide) (by decide) rfl (fun hy => ?_) (fun hn => ?_)
  ·
    refine g_aloadN C d9_14 (v := (.ref a)) rfl rfl (q := 15) rfl ?_
    refine g_getf C d9_15 (host := "") (Or.inl (wd43 hw)) Via.refl F.2.2.2.2.1 (q := 18) rfl ?_
    refine g_ireturn C d9_18 (Nat.le_refl _) (by decide) (by decide) ⟨rfl, by rw [(bool_z o).mp hy]; rfl⟩
  ·
    refine g_aloadN C d9_7 (v := (.ref a)) rfl rfl (q := 8) rfl ?_
    refine g_getf C d9_8 (host := "") (Or.inl (wd41 hw)) Via.refl F.2.2.2.2.2.1 (q := 11) rfl ?_
    refine g_goto C d9_11 (q := 18) (by decide) (by decide) ?_
    refine g_ireturn C d9_18 (Nat.le_refl _) (by decide) (by decide) ⟨rfl, by cases o; exact absurd rfl hn; rfl⟩
set_option maxRecDepth 65536 in
set_option maxHeartbeats 40000000 in
theorem c_creation (l : Launch) (Z : State) (a0 : Array Value) (kc ku kd ka : Addr) (G : Gl Z a0 kc ku kd ka) (a cA xA : Addr) (cr : Nat → Int64) (ch : Nat → Int32) (n : Nat) (cnt wr : Int32) (o : Bool) (h0 : Heap) (n0 : Nat) (T : TY Z h0 n0 a cA xA cr ch n cnt wr o) (id : Int64) (hn : n < 64) (hsort : ∀ i j, i < j → j < n → cr i < cr j) (hov : 0 < n → ¬ cr (n - 1) < id → (cr (n - 1)).toInt - id.toInt < 2 ^ 63) :
    Ctr l Z (⟨"com/example/nuthatch/nuthatch/store/JournalTally", "creation", "(J)I"⟩ : MethodName) prog_42_method_6_code 7 (some .int) rmCr #[(.ref a), (.long id)] h0 n0 (fun v h => h0 = h ∧ ∃ r, v = some (.int r) ∧ YR true cr n id r) := by
  have hw := G.1
  obtain ⟨F, A1, A2, -⟩ := T
  refine Ctr.of (n1 := n0) #[.val (.ref a), .val (.long id), .second, .unset, .unset, .unset, .unset] (plainFor_of_name pn1) (fun m => by first | (simp [entryFrame, mkF, argsToLocals, Value.category, maxLocals]; done) | rfl) ?_
  intro p e s m below meth c C
  refine g_iconst C d6_0 (z := (-1 : Int32)) rfl (q := 1) rfl ?_
  refine g_istoreN C d6_1 (L' := #[.val (.ref a), .val (.long id), .second, .val (.int (-1 : Int32)), .unset, .unset, .unset]) rfl (q := 2) rfl ?_
  refine g_aloadN C d6_2 (v := (.ref a)) rfl rfl (q := 3) rfl ?_
  refine g_getf C d6_3 (host := "") (Or.inl (wd38 hw)) Via.refl F.2.2.2.1 (q := 6) rfl ?_
  refine g_if_le C d6_6 (q' := 110) (q := 9) (by decide) (by decide) rfl (fun hy => ?_) (fun hn0 => ?_)
  ·
    have e0 : n = 0 := by
      rcases Nat.eq_zero_or_pos n with e | e
      · exact e
      · exact absurd ((ofNat_lt (i := 0) (by omega) (by omega)).mpr e) hy
    refine g_iloadN C d6_110 (v := (-1 : Int32)) rfl (q := 111) rfl ?_
    refine g_ireturn C d6_111 (Nat.le_refl _) (by decide) (by decide) ⟨rfl, _, rfl, Or.inr ⟨by decide, Or.inr fun i hi => by omega⟩⟩
  ·
    have hp : 0 < n := (ofNat_lt (i := 0) (by omega) (by omega)).mp hn0
    have es := ofNat_sub1 hp
    refine g_lloadN C d6_9 (v := id) rfl (q := 10) rfl ?_
    refine g_aloadN C d6_10 (v := (.ref a)) rfl rfl (q := 11) rfl ?_
    refine g_getf C d6_11 (host := "") (Or.inl (wd16 hw)) Via.refl F.2.1 (q := 14) rfl ?_
    refine g_aloadN C d6_14 (v := (.ref a)) rfl rfl (q := 15) rfl ?_
    refine g_getf C d6_15 (host := "") (Or.inl (wd38 hw)) Via.refl F.2.2.2.1 (q := 18) rfl ?_
    refine g_iconst C d6_18 (z := (1 : Int32)) rfl (q := 19) rfl ?_
    refine g_isub C d6_19 (q := 20) rfl ?_
    refine g_laload C d6_20 (i := (n - 1)) A1 (by omega) es rfl (q := 21) rfl ?_
    refine g_lcmp C d6_21 (q := 22) rfl ?_
    refine g_if_gt C d6_22 (q' := 110) (q := 25) (by decide) (by decide) rfl (fun hgt => ?_) (fun hle => ?_)
    ·
      refine g_iloadN C d6_110 (v := (-1 : Int32)) rfl (q := 111) rfl ?_
      refine g_ireturn C d6_111 (Nat.le_refl _) (by decide) (by decide) ⟨rfl, _, rfl, Or.inr ⟨by decide, Or.inr fun i hi => fun e => by
            have q := (cmpL_gt _ _).mp hgt
            rcases Nat.lt_or_eq_of_le (Nat.le_sub_one_of_lt hi) with q2 | q2
            · have := Int64.lt_trans (hsort i (n - 1) q2 (by omega)) q; rw [e] at this; exact absurd this Int64.lt_irrefl
            · rw [← q2, e] at q; exact absurd q Int64.lt_irrefl⟩⟩
    ·
      have hle' : ¬ cr (n - 1) < id := fun q => hle ((cmpL_gt _ _).mpr q)
      refine g_aloadN C d6_25 (v := (.ref a)) rfl rfl (q := 26) rfl ?_
      refine g_getf C d6_26 (host := "") (Or.inl (wd16 hw)) Via.refl F.2.1 (q := 29) rfl ?_
      refine g_aloadN C d6_29 (v := (.ref a)) rfl rfl (q := 30) rfl ?_
      refine g_getf C d6_30 (host := "") (Or.inl (wd38 hw)) Via.refl F.2.2.2.1 (q := 33) rfl ?_
      refine g_iconst C d6_33 (z := (1 : Int32)) rfl (q := 34) rfl ?_
      refine g_isub C d6_34 (q := 35) rfl ?_
      refine g_laload C d6_35 (i := (n - 1)) A1 (by omega) es rfl (q := 36) rfl ?_
      refine g_lloadN C d6_36 (v := id) rfl (q := 37) rfl ?_
      refine g_lsub C d6_37 (q := 38) rfl ?_
      refine g_lstore C d6_38 (L' := #[.val (.ref a), .val (.long id), .second, .val (.int (-1 : Int32)), .val (.long ((cr (n - 1)) - id)), .second, .unset]) rfl (q := 40) rfl ?_
      refine g_lload C d6_40 (v := ((cr (n - 1)) - id)) rfl (q := 42) rfl ?_
      refine g_aloadN C d6_42 (v := (.ref a)) rfl rfl (q := 43) rfl ?_
      refine g_getf C d6_43 (host := "") (Or.inl (wd38 hw)) Via.refl F.2.2.2.1 (q := 46) rfl ?_
      refine Go.join (pc' := 75) (Ls' := #[.val (.ref a), .val (.long id), .second, .val (.int (-1 : Int32)), .val (.long ((cr (n - 1)) - id)), .second, .unset]) (st' := []) ?_ (fun J => ?_)
      ·
        refine g_iconst C d6_75 (z := (0 : Int32)) rfl (q := 76) rfl ?_
        refine g_istore C d6_76 (L' := #[.val (.ref a), .val (.long id), .second, .val (.int (-1 : Int32)), .val (.long ((cr (n - 1)) - id)), .second, .val (.int (0 : Int32))]) rfl (q := 78) rfl ?_
        refine g_iload C d6_78 (v := (0 : Int32)) rfl (q := 80) rfl ?_
        refine g_if_eq C d6_80 (q' := 96) (q := 83) (by decide) (by decide) rfl (fun hy => ?_) (fun hn => absurd rfl hn)
        refine g_aloadN C d6_96 (v := (.ref a)) rfl rfl (q := 97) rfl ?_
        refine g_getf C d6_97 (host := "") (Or.inl (wd16 hw)) Via.refl F.2.1 (q := 100) rfl ?_
        refine g_iconst C d6_100 (z := (0 : Int32)) rfl (q := 101) rfl ?_
        refine g_aloadN C d6_101 (v := (.ref a)) rfl rfl (q := 102) rfl ?_
        refine g_getf C d6_102 (host := "") (Or.inl (wd38 hw)) Via.refl F.2.2.2.1 (q := 105) rfl ?_
        refine g_lloadN C d6_105 (v := id) rfl (q := 106) rfl ?_
        refine g_callS C (W := 0) (argsL := [(.ref cA), (.int (0 : Int32)), (.int (Int32.ofNat n)), (.long id)]) (rest := []) d6_106 (wd80 hw) (wd81 hw) (wd69 hw) (wd82 hw) (by decide) (Ctr.bk (c_bs l Z a0 kc ku kd ka G cA 64 n cr id h0 n0 (by omega) (by omega) A1 hsort) C (wd82 hw) (wd69 hw) (by decide) (by decide)) (by decide) (by decide) rfl (lenOf pd1 rfl) rfl rfl (q := 109) rfl (fun v2 h2 hQ2 => ?_)
        obtain ⟨rfl, hQ⟩ := hQ2
        obtain ⟨r, rfl, hR⟩ : ∃ r, v2 = some (.int r) ∧ YR true cr n id r := by
          rcases hQ with ⟨i, h1, h2, rfl⟩ | ⟨r, rfl, h1, h2⟩
          · exact ⟨_, rfl, Or.inl ⟨rfl, i, h1, h2, rfl⟩⟩
          · exact ⟨r, rfl, Or.inr ⟨h1, Or.inr h2⟩⟩
        refine ⟨[(.int r)], rfl, ?_⟩
        refine g_istoreN C d6_109 (L' := #[.val (.ref a), .val (.long id), .second, .val (.int r), .val (.long ((cr (n - 1)) - id)), .second, .val (.int (0 : Int32))]) rfl (q := 110) rfl ?_
        refine g_iloadN C d6_110 (v := r) rfl (q := 111) rfl ?_
        refine g_ireturn C d6_111 (Nat.le_refl _) (by decide) (by decide) ⟨rfl, r, rfl, hR⟩
      ·
        refine g_i2l C d6_46 (q := 47) rfl ?_
        refine g_lcmp C d6_47 (q := 48) rfl ?_
        refine g_if_ge C d6_48 (q' := 75) (q := 51) (by decide) (by decide) rfl (fun hy => J) (fun hlt => ?_)
        obtain ⟨b, hb, eb⟩ := back_idx (by omega) hle' (hov hp hle') ((cmpL_lt _ _).mp hlt)
        have ei : Int32.ofNat n - 1 - (cr (n - 1) - id).toInt32 = Int32.ofNat (n - 1 - b) := by rw [es, eb, ofNat_subn (by omega)]
        refine g_aloadN C d6_51 (v := (.ref a)) rfl rfl (q := 52) rfl ?_
        refine g_getf C d6_52 (host := "") (Or.inl (wd16 hw)) Via.refl F.2.1 (q := 55) rfl ?_
        refine g_aloadN C d6_55 (v := (.ref a)) rfl rfl (q := 56) rfl ?_
        refine g_getf C d6_56 (host := "") (Or.inl (wd38 hw)) Via.refl F.2.2.2.1 (q := 59) rfl ?_
        refine g_iconst C d6_59 (z := (1 : Int32)) rfl (q := 60) rfl ?_
        refine g_isub C d6_60 (q := 61) rfl ?_
        refine g_lload C d6_61 (v := ((cr (n - 1)) - id)) rfl (q := 63) rfl ?_
        refine g_l2i C d6_63 (q := 64) rfl ?_
        refine g_isub C d6_64 (q := 65) rfl ?_
        refine g_laload C d6_65 (i := (n - 1 - b)) A1 (by omega) ei rfl (q := 66) rfl ?_
        refine g_lloadN C d6_66 (v := id) rfl (q := 67) rfl ?_
        refine g_lcmp C d6_67 (q := 68) rfl ?_
        refine g_if_ne C d6_68 (q' := 75) (q := 71) (by decide) (by decide) rfl (fun hy => J) (fun heq => ?_)
        refine g_iconst C d6_71 (z := (1 : Int32)) rfl (q := 72) rfl ?_
        refine g_goto C d6_72 (q := 76) (by decide) (by decide) ?_
        refine g_istore C d6_76 (L' := #[.val (.ref a), .val (.long id), .second, .val (.int (-1 : Int32)), .val (.long ((cr (n - 1)) - id)), .second, .val (.int (1 : Int32))]) rfl (q := 78) rfl ?_
        refine g_iload C d6_78 (v := (1 : Int32)) rfl (q := 80) rfl ?_
        refine g_if_eq C d6_80 (q' := 96) (q := 83) (by decide) (by decide) rfl (fun hy => absurd hy (by decide)) (fun hn => ?_)
        refine g_aloadN C d6_83 (v := (.ref a)) rfl rfl (q := 84) rfl ?_
        refine g_getf C d6_84 (host := "") (Or.inl (wd38 hw)) Via.refl F.2.2.2.1 (q := 87) rfl ?_
        refine g_iconst C d6_87 (z := (1 : Int32)) rfl (q := 88) rfl ?_
        refine g_isub C d6_88 (q := 89) rfl ?_
        refine g_lload C d6_89 (v := ((cr (n - 1)) - id)) rfl (q := 91) rfl ?_
        refine g_l2i C d6_91 (q := 92) rfl ?_
        refine g_isub C d6_92 (q := 93) rfl ?_
        refine g_goto C d6_93 (q := 109) (by decide) (by decide) ?_
        refine g_istoreN C d6_109 (L' := #[.val (.ref a), .val (.long id), .second, .val (.int (((Int32.ofNat n) - (1 : Int32)) - (((cr (n - 1)) - id).toInt32))), .val (.long ((cr (n - 1)) - id)), .second, .val (.int (1 : Int32))]) rfl (q := 110) rfl ?_
        refine g_iloadN C d6_110 (v := (((Int32.ofNat n) - (1 : Int32)) - (((cr (n - 1)) - id).toInt32))) rfl (q := 111) rfl ?_
        refine g_ireturn C d6_111 (Nat.le_refl _) (by decide) (by decide) ⟨rfl, _, rfl, Or.inl ⟨rfl, n - 1 - b, by omega, (cmpL_eq _ _).mp heq, ei⟩⟩
set_option maxRecDepth 65536 in
set_option maxHeartbeats 40000000 in
theorem c_add (l : Launch) (Z : State) (a0 : Array Value) (kc ku kd ka : Addr) (G : Gl Z a0 kc ku kd ka) (a cA xA : Addr) (cr : Nat → Int64) (ch : Nat → Int32) (n : Nat) (cnt wr : Int32) (o : Bool) (h0 : Heap) (n0 : Nat) (T : TY Z h0 n0 a cA xA cr ch n cnt wr o) (kv : Addr) (id : Int64) (X0 : Ext Z.heap h0) (hn : n < 64) (hs : o = true → ∀ i j, i < j → j < n → cr i < cr j) (hov : o = true → 0 < n → ¬ cr (n - 1) < id → (cr (n - 1)).toInt - id.toInt < 2 ^ 63) :
    Ctr l Z (⟨"com/example/nuthatch/nuthatch/store/JournalTally", "add", "(Lcom/example/nuthatch/nuthatch/store/ChangeRecord$Kind;J)V"⟩ : MethodName) prog_42_method_2_code 5 none rmAdd #[(.ref a), (.ref kv), (.long id)] h0 n0 (fun v h => v = none ∧ Keep h0 h [a, cA, xA] ∧ ∃ cr' ch' n' wr' o', TY Z h n0 a cA xA cr' ch' n' (cnt + 1) wr' o' ∧ MA kc kd kv id cr ch n wr o cr' ch' n' wr' o') := by
  have hw := G.1
  have G' := G
  obtain ⟨-, S1, -, S3, -, -, hdc, -⟩ := G'
  have T0 := T
  obtain ⟨F, A1, A2, ga, gc, gx, d1, d2, d3⟩ := T
  refine Ctr.of (n1 := n0) #[.val (.ref a), .val (.ref kv), .val (.long id), .second, .unset] (plainFor_of_name pn1) (fun m => by first | (simp [entryFrame, mkF, argsToLocals, Value.category, maxLocals]; done) | rfl) ?_
  intro p e s m below meth c C
  refine g_aloadN C d5_0 (v := (.ref a)) rfl rfl (q := 1) rfl ?_
  refine g_getf C d5_1 (host := "") (Or.inl (wd21 hw)) Via.refl F.2.2.2.2.2.2 (q := 4) rfl ?_
  refine Go.joinR (pc' := 16) (YR o cr n id) (fun _ => #[.val (.ref a), .val (.ref kv), .val (.long id), .second, .unset]) (fun r => [.int r]) ?_ (fun J => ?_)
  ·
    intro r hR
    refine g_istore C d5_16 (L' := #[.val (.ref a), .val (.ref kv), .val (.long id), .second, .val (.int r)]) rfl (q := 18) rfl ?_
    refine g_aloadN C d5_18 (v := (.ref kv)) rfl rfl (q := 19) rfl ?_
    refine g_gets C d5_19 (host := "") (Or.inl (wd40 hw)) Via.refl (S1.ext X0) (q := 22) rfl ?_
    refine g_acmp_ne C d5_22 rfl rfl (q' := 151) (q := 25) (by decide) (by decide) rfl (fun hne => ?_) (fun hke => ?_)
    ·
      have hne' : ¬ kv = kc := fun q => hne (by rw [q])
      have wr1 : ∀ (h3 : Heap) (ch3 : Nat → Int32), JF Z h3 a (.ref cA) (.ref xA) (.int (Int32.ofNat n)) (.int cnt) (.int wr) (.int (if o then 1 else 0)) → Av Z h3 cA .long 64 (fun j => .long (cr j)) → Av Z h3 xA .int 64 (fun j => .int (ch3 j)) → Keep h0 h3 [a, cA, xA] → (MA kc kd kv id cr ch n wr o cr ch3 n (wr + 1) o) → Go p l e rmAdd s m #[.ref a, .ref kv, .long id] below meth c (FinN s below rmAdd n0 (fun v h => v = none ∧ Keep h0 h [a, cA, xA] ∧ ∃ cr' ch' n' wr' o', TY Z h n0 a cA xA cr' ch' n' (cnt + 1) wr' o' ∧ MA kc kd kv id cr ch n wr o cr' ch' n' wr' o')) n0 h3 0 0 226 #[.val (.ref a), .val (.ref kv), .val (.long id), .second, .val (.int r)] [] := by
        intro h3 ch3 F A1 A2 K3 hM
        refine g_aloadN C d5_226 (v := (.ref a)) rfl rfl (q := 227) rfl ?_
        refine g_dup C d5_227 rfl (q := 228) rfl ?_
        refine g_getf C d5_228 (host := "") (Or.inl (wd41 hw)) Via.refl F.2.2.2.2.2.1 (q := 231) rfl ?_
        refine g_iconst C d5_231 (z := (1 : Int32)) rfl (q := 232) rfl ?_
        refine g_iadd C d5_232 (q := 233) rfl ?_
        refine g_putf C d5_233 (host := "") (Or.inl (wd41 hw)) Via.refl F.2.2.2.2.2.1 F.1 (Or.inl (wd42 hw)) (wd7 hw) (ty := .int) (by decide) rfl rfl ga (q := 236) rfl (fun h4 W4 => ?_)
        have F := F.w4 hw W4
        have A1 := A1.other W4 (Ne.symm d1)
        have A2 := A2.other W4 (Ne.symm d2)
        refine g_aloadN C d5_236 (v := (.ref a)) rfl rfl (q := 237) rfl ?_
        refine g_dup C d5_237 rfl (q := 238) rfl ?_
        refine g_getf C d5_238 (host := "") (Or.inl (wd43 hw)) Via.refl F.2.2.2.2.1 (q := 241) rfl ?_
        refine g_iconst C d5_241 (z := (1 : Int32)) rfl (q := 242) rfl ?_
        refine g_iadd C d5_242 (q := 243) rfl ?_
        refine g_putf C d5_243 (host := "") (Or.inl (wd43 hw)) Via.refl F.2.2.2.2.1 F.1 (Or.inl (wd44 hw)) (wd7 hw) (ty := .int) (by decide) rfl rfl ga (q := 246) rfl (fun h9 W9 => ?_)
        have F := F.w3 hw W9
        have A1 := A1.other W9 (Ne.symm d1)
        have A2 := A2.other W9 (Ne.symm d2)
        refine g_return C d5_246 (Nat.le_refl _) (by decide) (by decide) ⟨rfl, (K3.wr W4 (Or.inl (by simp))).wr W9 (Or.inl (by simp)), _, _, _, _, _, ⟨F, A1, A2, ga, gc, gx, d1, d2, d3⟩, hM⟩
      refine g_iload C d5_151 (v := r) rfl (q := 153) rfl ?_
      refine g_if_lt C d5_153 (q' := 200) (q := 156) (by decide) (by decide) rfl (fun hneg => ?_) (fun hnn => ?_)
      ·
        have hno : o = false ∨ ∀ i, i < n → ¬ cr i = id := by
          rcases hR with ⟨-, i, h1, -, rfl⟩ | ⟨-, q⟩
          · exact absurd hneg (ofNat_nonneg (by omega))
          · exact q
        refine g_iload C d5_200 (v := r) rfl (q := 202) rfl ?_
        refine g_if_lt C d5_202 (q' := 226) (q := 205) (by decide) (by decide) rfl (fun hy => ?_) (fun hn => absurd hneg hn)
        exact wr1 h0 ch F A1 A2 (Keep.refl _ _) (Or.inr ⟨hne', rfl, rfl, rfl, Or.inr (Or.inr ⟨hno.imp (fun q => q) Or.inl, rfl, rfl⟩)⟩)
      ·
        obtain ⟨ho, i, hi, hci, rfl⟩ : o = true ∧ ∃ i, i < n ∧ cr i = id ∧ r = Int32.ofNat i := by
          rcases hR with q | ⟨q, -⟩
          · exact q
          · exact absurd q hnn
        refine g_aloadN C d5_156 (v := (.ref a)) rfl rfl (q := 157) rfl ?_
        refine g_getf C d5_157 (host := "") (Or.inl (wd19 hw)) Via.refl F.2.2.1 (q := 160) rfl ?_
        refine g_iload C d5_160 (v := (Int32.ofNat i)) rfl (q := 162) rfl ?_
        refine g_iaload C d5_162 (i := i) A2 (by omega) rfl rfl (q := 163) rfl ?_
        refine g_if_le C d5_163 (q' := 200) (q := 166) (by decide) (by decide) rfl (fun hnp => ?_) (fun hps => ?_)
        ·
          refine g_iload C d5_200 (v := (Int32.ofNat i)) rfl (q := 202) rfl ?_
          refine g_if_lt C d5_202 (q' := 226) (q := 205) (by decide) (by decide) rfl (fun hy => absurd hy (ofNat_nonneg (by omega))) (fun hn => ?_)
          refine g_aloadN C d5_205 (v := (.ref a)) rfl rfl (q := 206) rfl ?_
          refine g_getf C d5_206 (host := "") (Or.inl (wd19 hw)) Via.refl F.2.2.1 (q := 209) rfl ?_
          refine g_iload C d5_209 (v := (Int32.ofNat i)) rfl (q := 211) rfl ?_
          refine g_iaload C d5_211 (i := i) A2 (by omega) rfl rfl (q := 212) rfl ?_
          refine g_if_le C d5_212 (q' := 226) (q := 215) (by decide) (by decide) rfl (fun hy => ?_) (fun hn => absurd hn hnp)
          exact wr1 h0 ch F A1 A2 (Keep.refl _ _) (Or.inr ⟨hne', rfl, rfl, rfl, Or.inr (Or.inr ⟨Or.inr (Or.inr ⟨i, hi, hci, hnp⟩), rfl, rfl⟩)⟩)
        ·
          refine g_aloadN C d5_166 (v := (.ref kv)) rfl rfl (q := 167) rfl ?_
          refine g_gets C d5_167 (host := "") (Or.inl (wd50 hw)) Via.refl (S3.ext X0) (q := 170) rfl ?_
          refine g_acmp_ne C d5_170 rfl rfl (q' := 200) (q := 173) (by decide) (by decide) rfl (fun hnd => ?_) (fun hde => ?_)
          ·
            have hnd' : ¬ kv = kd := fun q => hnd (by rw [q])
            refine g_iload C d5_200 (v := (Int32.ofNat i)) rfl (q := 202) rfl ?_
            refine g_if_lt C d5_202 (q' := 226) (q := 205) (by decide) (by decide) rfl (fun hy => absurd hy (ofNat_nonneg (by omega))) (fun hn => ?_)
            refine g_aloadN C d5_205 (v := (.ref a)) rfl rfl (q := 206) rfl ?_
            refine g_getf C d5_206 (host := "") (Or.inl (wd19 hw)) Via.refl F.2.2.1 (q := 209) rfl ?_
            refine g_iload C d5_209 (v := (Int32.ofNat i)) rfl (q := 211) rfl ?_
            refine g_iaload C d5_211 (i := i) A2 (by omega) rfl rfl (q := 212) rfl ?_
            refine g_if_le C d5_212 (q' := 226) (q := 215) (by decide) (by decide) rfl (fun hy => absurd hps hy) (fun hn => ?_)
            refine g_aloadN C d5_215 (v := (.ref a)) rfl rfl (q := 216) rfl ?_
            refine g_getf C d5_216 (host := "") (Or.inl (wd19 hw)) Via.refl F.2.2.1 (q := 219) rfl ?_
            refine g_iload C d5_219 (v := (Int32.ofNat i)) rfl (q := 221) rfl ?_
            refine g_dup2 C d5_221 rfl rfl (q := 222) rfl ?_
            refine g_iaload C d5_222 (i := i) A2 (by omega) rfl rfl (q := 223) rfl ?_
            refine g_iconst C d5_223 (z := (1 : Int32)) rfl (q := 224) rfl ?_
            refine g_iadd C d5_224 (q := 225) rfl ?_
            refine g_iastore C d5_225 (i := i) A2 (by omega) rfl gx (q := 226) rfl (fun h3 W3 B2 => ?_)
            exact wr1 h3 _ (F.other W3 d2) (A1.other W3 d3) B2.updI ((Keep.refl _ _).wr W3 (Or.inl (by simp))) (Or.inr ⟨hne', rfl, rfl, rfl, Or.inr (Or.inl ⟨hnd', ho, i, hi, hci, hps, rfl, rfl⟩)⟩)
          ·
            have hde' : kv = kd := Value.ref.inj hde
            refine g_aloadN C d5_173 (v := (.ref a)) rfl rfl (q := 174) rfl ?_
            refine g_dup C d5_174 rfl (q := 175) rfl ?_
            refine g_getf C d5_175 (host := "") (Or.inl (wd41 hw)) Via.refl F.2.2.2.2.2.1 (q := 178) rfl ?_
            refine g_aloadN C d5_178 (v := (.ref a)) rfl rfl (q := 179) rfl ?_
            refine g_getf C d5_179 (host := "") (Or.inl (wd19 hw)) Via.refl F.2.2.1 (q := 182) rfl ?_
            refine g_iload C d5_182 (v := (Int32.ofNat i)) rfl (q := 184) rfl ?_
            refine g_iaload C d5_184 (i := i) A2 (by omega) rfl rfl (q := 185) rfl ?_
            refine g_isub C d5_185 (q := 186) rfl ?_
            refine g_putf C d5_186 (host := "") (Or.inl (wd41 hw)) Via.refl F.2.2.2.2.2.1 F.1 (Or.inl (wd42 hw)) (wd7 hw) (ty := .int) (by decide) rfl rfl ga (q := 189) rfl (fun h3 W3 => ?_)
            have F := F.w4 hw W3
            have A1 := A1.other W3 (Ne.symm d1)
            have A2 := A2.other W3 (Ne.symm d2)
            refine g_aloadN C d5_189 (v := (.ref a)) rfl rfl (q := 190) rfl ?_
            refine g_getf C d5_190 (host := "") (Or.inl (wd19 hw)) Via.refl F.2.2.1 (q := 193) rfl ?_
            refine g_iload C d5_193 (v := (Int32.ofNat i)) rfl (q := 195) rfl ?_
            refine g_iconst C d5_195 (z := (0 : Int32)) rfl (q := 196) rfl ?_
            refine g_iastore C d5_196 (i := i) A2 (by omega) rfl gx (q := 197) rfl (fun h4 W4 B2 => ?_)
            have F := F.other W4 d2
            have A1 := A1.other W4 d3
            have A2 := B2.updI
            refine g_goto C d5_197 (q := 236) (by decide) (by decide) ?_
            refine g_aloadN C d5_236 (v := (.ref a)) rfl rfl (q := 237) rfl ?_
            refine g_dup C d5_237 rfl (q := 238) rfl ?_
            refine g_getf C d5_238 (host := "") (Or.inl (wd43 hw)) Via.refl F.2.2.2.2.1 (q := 241) rfl ?_
            refine g_iconst C d5_241 (z := (1 : Int32)) rfl (q := 242) rfl ?_
            refine g_iadd C d5_242 (q := 243) rfl ?_
            refine g_putf C d5_243 (host := "") (Or.inl (wd43 hw)) Via.refl F.2.2.2.2.1 F.1 (Or.inl (wd44 hw)) (wd7 hw) (ty := .int) (by decide) rfl rfl ga (q := 246) rfl (fun h9 W9 => ?_)
            have F := F.w3 hw W9
            have A1 := A1.other W9 (Ne.symm d1)
            have A2 := A2.other W9 (Ne.symm d2)
            refine g_return C d5_246 (Nat.le_refl _) (by decide) (by decide) ⟨rfl, (((Keep.refl h0 [a, cA, xA]).wr W3 (Or.inl (by simp))).wr W4 (Or.inl (by simp))).wr W9 (Or.inl (by simp)), _, _, _, _, _, ⟨F, A1, A2, ga, gc, gx, d1, d2, d3⟩, Or.inr ⟨hne', rfl, rfl, rfl, Or.inl ⟨hde', ho, i, hi, hci, hps, rfl, rfl⟩⟩⟩
    ·
      have hke' : kv = kc := Value.ref.inj hke
      refine g_aloadN C d5_25 (v := (.ref a)) rfl rfl (q := 26) rfl ?_
      refine g_dup C d5_26 rfl (q := 27) rfl ?_
      refine g_getf C d5_27 (host := "") (Or.inl (wd21 hw)) Via.refl F.2.2.2.2.2.2 (q := 30) rfl ?_
      refine g_aloadN C d5_30 (v := (.ref a)) rfl rfl (q := 31) rfl ?_
      refine g_getf C d5_31 (host := "") (Or.inl (wd38 hw)) Via.refl F.2.2.2.1 (q := 34) rfl ?_
      refine Go.joinR (pc' := 58) (fun b : Bool => b = (n == 0 || decide (cr (n - 1) < id))) (fun _ => #[.val (.ref a), .val (.ref kv), .val (.long id), .second, .val (.int r)]) (fun b => [.int (if b then 1 else 0), .int (if o then 1 else 0), .ref a]) ?_ (fun J2 => ?_)
      ·
        intro b hb
        refine g_iand C d5_58 (q := 59) rfl ?_
        rw [bool_and]
        refine g_putf C d5_59 (host := "") (Or.inl (wd21 hw)) Via.refl F.2.2.2.2.2.2 F.1 (Or.inl (wd22 hw)) (wd7 hw) (ty := .boolean) (by decide) (bool_nar _) (bool_fit _) ga (q := 62) rfl (fun h3 W3 => ?_)
        have F := F.w5 hw W3
        have A1 := A1.other W3 (Ne.symm d1)
        have A2 := A2.other W3 (Ne.symm d2)
        refine g_aloadN C d5_62 (v := (.ref a)) rfl rfl (q := 63) rfl ?_
        refine g_getf C d5_63 (host := "") (Or.inl (wd38 hw)) Via.refl F.2.2.2.1 (q := 66) rfl ?_
        refine g_aloadN C d5_66 (v := (.ref a)) rfl rfl (q := 67) rfl ?_
        refine g_getf C d5_67 (host := "") (Or.inl (wd16 hw)) Via.refl F.2.1 (q := 70) rfl ?_
        refine g_alen C d5_70 A1 (z := (64 : Int32)) rfl (q := 71) rfl ?_
        refine g_icmp_ne C d5_71 (q' := 108) (q := 74) (by decide) (by decide) rfl (fun hy => ?_) (fun hn => absurd (ofNat_inj (j := 64) (by omega) (by omega) hn) (by omega))
        refine g_aloadN C d5_108 (v := (.ref a)) rfl rfl (q := 109) rfl ?_
        refine g_getf C d5_109 (host := "") (Or.inl (wd16 hw)) Via.refl F.2.1 (q := 112) rfl ?_
        refine g_aloadN C d5_112 (v := (.ref a)) rfl rfl (q := 113) rfl ?_
        refine g_getf C d5_113 (host := "") (Or.inl (wd38 hw)) Via.refl F.2.2.2.1 (q := 116) rfl ?_
        refine g_lloadN C d5_116 (v := id) rfl (q := 117) rfl ?_
        refine g_lastore C d5_117 (i := n) A1 (by omega) rfl gc (q := 118) rfl (fun h4 W4 B1 => ?_)
        have F := F.other W4 d1
        have A2 := A2.other W4 (Ne.symm d3)
        have A1 := B1.updJ
        refine g_aloadN C d5_118 (v := (.ref a)) rfl rfl (q := 119) rfl ?_
        refine g_getf C d5_119 (host := "") (Or.inl (wd19 hw)) Via.refl F.2.2.1 (q := 122) rfl ?_
        refine g_aloadN C d5_122 (v := (.ref a)) rfl rfl (q := 123) rfl ?_
        refine g_getf C d5_123 (host := "") (Or.inl (wd38 hw)) Via.refl F.2.2.2.1 (q := 126) rfl ?_
        refine g_iconst C d5_126 (z := (1 : Int32)) rfl (q := 127) rfl ?_
        refine g_iastore C d5_127 (i := n) A2 (by omega) rfl gx (q := 128) rfl (fun h5 W5 B2 => ?_)
        have F := F.other W5 d2
        have A1 := A1.other W5 d3
        have A2 := B2.updI
        refine g_aloadN C d5_128 (v := (.ref a)) rfl rfl (q := 129) rfl ?_
        refine g_dup C d5_129 rfl (q := 130) rfl ?_
        refine g_getf C d5_130 (host := "") (Or.inl (wd38 hw)) Via.refl F.2.2.2.1 (q := 133) rfl ?_
        refine g_iconst C d5_133 (z := (1 : Int32)) rfl (q := 134) rfl ?_
        refine g_iadd C d5_134 (q := 135) rfl ?_
        rw [ofNat_add1]
        refine g_putf C d5_135 (host := "") (Or.inl (wd38 hw)) Via.refl F.2.2.2.1 F.1 (Or.inl (wd39 hw)) (wd7 hw) (ty := .int) (by decide) rfl rfl ga (q := 138) rfl (fun h6 W6 => ?_)
        have F := F.w2 hw W6
        have A1 := A1.other W6 (Ne.symm d1)
        have A2 := A2.other W6 (Ne.symm d2)
        refine g_aloadN C d5_138 (v := (.ref a)) rfl rfl (q := 139) rfl ?_
        refine g_dup C d5_139 rfl (q := 140) rfl ?_
        refine g_getf C d5_140 (host := "") (Or.inl (wd41 hw)) Via.refl F.2.2.2.2.2.1 (q := 143) rfl ?_
        refine g_iconst C d5_143 (z := (1 : Int32)) rfl (q := 144) rfl ?_
        refine g_iadd C d5_144 (q := 145) rfl ?_
        refine g_putf C d5_145 (host := "") (Or.inl (wd41 hw)) Via.refl F.2.2.2.2.2.1 F.1 (Or.inl (wd42 hw)) (wd7 hw) (ty := .int) (by decide) rfl rfl ga (q := 148) rfl (fun h7 W7 => ?_)
        have F := F.w4 hw W7
        have A1 := A1.other W7 (Ne.symm d1)
        have A2 := A2.other W7 (Ne.symm d2)
        have K7 : Keep h0 h7 [a, cA, xA] := (((((Keep.refl h0 [a, cA, xA]).wr W3 (Or.inl (by simp))).wr W4 (Or.inl (by simp))).wr W5 (Or.inl (by simp))).wr W6 (Or.inl (by simp))).wr W7 (Or.inl (by simp))
        refine g_goto C d5_148 (q := 236) (by decide) (by decide) ?_
        refine g_aloadN C d5_236 (v := (.ref a)) rfl rfl (q := 237) rfl ?_
        refine g_dup C d5_237 rfl (q := 238) rfl ?_
        refine g_getf C d5_238 (host := "") (Or.inl (wd43 hw)) Via.refl F.2.2.2.2.1 (q := 241) rfl ?_
        refine g_iconst C d5_241 (z := (1 : Int32)) rfl (q := 242) rfl ?_
        refine g_iadd C d5_242 (q := 243) rfl ?_
        refine g_putf C d5_243 (host := "") (Or.inl (wd43 hw)) Via.refl F.2.2.2.2.1 F.1 (Or.inl (wd44 hw)) (wd7 hw) (ty := .int) (by decide) rfl rfl ga (q := 246) rfl (fun h9 W9 => ?_)
        have F := F.w3 hw W9
        have A1 := A1.other W9 (Ne.symm d1)
        have A2 := A2.other W9 (Ne.symm d2)
        refine g_return C d5_246 (Nat.le_refl _) (by decide) (by decide) ⟨rfl, K7.wr W9 (Or.inl (by simp)), _, _, _, _, _, ⟨F, A1, A2, ga, gc, gx, d1, d2, d3⟩, Or.inl ⟨hke', rfl, rfl, rfl, rfl, by rw [hb]⟩⟩
      ·
        refine g_if_eq C d5_34 (q' := 53) (q := 37) (by decide) (by decide) rfl (fun hz => ?_) (fun hnz => ?_)
        ·
          refine g_iconst C d5_53 (z := (1 : Int32)) rfl (q := 54) rfl ?_
          refine g_goto C d5_54 (q := 58) (by decide) (by decide) ?_
          exact J2 true (by rw [show n = 0 from ofNat_inj (j := 0) (by omega) (by omega) hz]; rfl)
        ·
          have hp : 0 < n := Nat.pos_of_ne_zero fun q => hnz (by rw [q]; rfl)
          refine g_lloadN C d5_37 (v := id) rfl (q := 38) rfl ?_
          refine g_aloadN C d5_38 (v := (.ref a)) rfl rfl (q := 39) rfl ?_
          refine g_getf C d5_39 (host := "") (Or.inl (wd16 hw)) Via.refl F.2.1 (q := 42) rfl ?_
          refine g_aloadN C d5_42 (v := (.ref a)) rfl rfl (q := 43) rfl ?_
          refine g_getf C d5_43 (host := "") (Or.inl (wd38 hw)) Via.refl F.2.2.2.1 (q := 46) rfl ?_
          refine g_iconst C d5_46 (z := (1 : Int32)) rfl (q := 47) rfl ?_
          refine g_isub C d5_47 (q := 48) rfl ?_
          refine g_laload C d5_48 (i := (n - 1)) A1 (by omega) (ofNat_sub1 hp) rfl (q := 49) rfl ?_
          refine g_lcmp C d5_49 (q := 50) rfl ?_
          refine g_if_le C d5_50 (q' := 57) (q := 53) (by decide) (by decide) rfl (fun hle => ?_) (fun hgt => ?_)
          ·
            refine g_iconst C d5_57 (z := (0 : Int32)) rfl (q := 58) rfl ?_
            exact J2 false (by simp [show ¬ cr (n - 1) < id from fun q => hle ((cmpL_gt _ _).mpr q)]; omega)
          ·
            refine g_iconst C d5_53 (z := (1 : Int32)) rfl (q := 54) rfl ?_
            refine g_goto C d5_54 (q := 58) (by decide) (by decide) ?_
            exact J2 true (by simp [(cmpL_gt _ _).mp hgt])
  ·
    refine g_if_eq C d5_4 (q' := 15) (q := 7) (by decide) (by decide) rfl (fun hof => ?_) (fun hot => ?_)
    ·
      refine g_iconst C d5_15 (z := (-1 : Int32)) rfl (q := 16) rfl ?_
      exact J _ (Or.inr ⟨by decide, Or.inl ((bool_z o).mp hof)⟩)
    ·
      have ho : o = true := by cases o; exact absurd rfl hot; rfl
      refine g_aloadN C d5_7 (v := (.ref a)) rfl rfl (q := 8) rfl ?_
      refine g_lloadN C d5_8 (v := id) rfl (q := 9) rfl ?_
      refine g_callP C (W := 0) (argsL := [(.long id)]) (rest := []) (a := a) d5_9 (wd34 hw) (wd35 hw) (wd7 hw) (wd37 hw) (by decide) (priv_of C (wd36 hw)) F.1 (Ctr.bk (c_creation l Z a0 kc ku kd ka G a cA xA cr ch n cnt wr o h0 n0 T0 id hn (hs ho) (hov ho)) C (wd37 hw) (wd8 hw) (by decide) (by decide)) (by decide) (by decide) rfl (lenOf pd2 rfl) rfl rfl (q := 12) rfl (fun v2 h2 hQ2 => ?_)
      obtain ⟨rfl, r, rfl, hR⟩ := hQ2
      refine ⟨[(.int r)], rfl, ?_⟩
      refine g_goto C d5_12 (q := 16) (by decide) (by decide) ?_
      exact J r (by rw [ho]; exact hR)
abbrev rmCp : Room := { frames := 1, cells := 1, slots := 16, locals := 40 }
abbrev rmPs : Room := { frames := 2, cells := 2, slots := 32, locals := 64 }
/-- the ids that pass -/
def pas (cr : Nat → Int64) (ch : Nat → Int32) (n : Nat) : List Int64 := ((List.range n).filter (fun i => ch i == 0)).map cr
theorem pas_len (cr : Nat → Int64) (ch : Nat → Int32) (n : Nat) : (pas cr ch n).length ≤ n := by
  unfold pas; rw [List.length_map]; exact Nat.le_trans (List.length_filter_le _ _) (by simp)
theorem pas_succ (cr : Nat → Int64) (ch : Nat → Int32) (n : Nat) : pas cr ch (n + 1) = pas cr ch n ++ (if ch n = 0 then [cr n] else []) := by
  unfold pas; rw [List.range_succ, List.filter_append, List.map_append]
  by_cases e : ch n = 0 <;> simp [e]
theorem pas_congr {cr cr' : Nat → Int64} {ch ch' : Nat → Int32} {n : Nat} (h : ∀ i, i < n → cr i = cr' i ∧ ch i = ch' i) : pas cr ch n = pas cr' ch' n := by
  induction n with
  | zero => rfl
  | succ n ih => rw [pas_succ, pas_succ, ih fun i hi => h i (by omega), (h n (by omega)).1, (h n (by omega)).2]
set_option maxRecDepth 65536 in
set_option maxHeartbeats 40000000 in
theorem c_min (l : Launch) (Z : State) (a0 : Array Value) (kc ku kd ka : Addr) (G : Gl Z a0 kc ku kd ka) (N k : Nat) (hN : N < 2 ^ 31) (hk : k ≤ N) (h0 : Heap) (n0 : Nat) :
    Ctr l Z (⟨"java/lang/Math", "min", "(II)I"⟩ : MethodName) jdk_29_method_69_code 2 (some .int) rm0 #[(.int (Int32.ofNat N)), (.int (Int32.ofNat k))] h0 n0 (fun v h => h0 = h ∧ v = some (.int (Int32.ofNat k))) := by
  have hw := G.1
  refine Ctr.of (n1 := n0) #[.val (.int (Int32.ofNat N)), .val (.int (Int32.ofNat k))] (by decide +kernel) (fun m => by first | (simp [entryFrame, mkF, argsToLocals, Value.category, maxLocals]; done) | rfl) ?_
  intro p e s m below meth c C
  refine g_iloadN C d12_0 (v := (Int32.ofNat N)) rfl (q := 1) rfl ?_
  refine g_iloadN C d12_1 (v := (Int32.ofNat k)) rfl (q := 2) rfl ?_
  refine g_icmp_gt C d12_2 (q' := 9) (q := 5) (by decide) (by decide) rfl (fun hy => ?_) (fun hn => ?_)
  ·
    refine g_iloadN C d12_9 (v := (Int32.ofNat k)) rfl (q := 10) rfl ?_
    refine g_ireturn C d12_10 (Nat.le_refl _) (by decide) (by decide) ⟨rfl, rfl⟩
  ·
    refine g_iloadN C d12_5 (v := (Int32.ofNat N)) rfl (q := 6) rfl ?_
    refine g_goto C d12_6 (q := 10) (by decide) (by decide) ?_
    refine g_ireturn C d12_10 (Nat.le_refl _) (by decide) (by decide) ⟨rfl, by
          have := Nat.not_lt.mp (fun q => hn ((ofNat_lt (by omega) hN).mpr q))
          rw [show N = k by omega]⟩
set_option maxRecDepth 65536 in
set_option maxHeartbeats 40000000 in
theorem c_copyof (l : Launch) (Z : State) (a0 : Array Value) (kc ku kd ka : Addr) (G : Gl Z a0 kc ku kd ka) (b : Addr) (N k : Nat) (f : Nat → Int64) (hN : N ≤ 16) (hk : k ≤ N) (h0 : Heap) (n0 : Nat) (Z0 : n0 ≤ h0.size) (A0 : Av Z h0 b .long N (fun j => .long (f j))) (X1 : Exa Z h0 b "[J") :
    Ctr l Z (⟨"java/util/Arrays", "copyOf", "([JI)[J"⟩ : MethodName) jdk_65_method_124_code 3 (some (.array .long)) rmCp #[(.ref b), (.int (Int32.ofNat k))] h0 n0 (fun v h => ∃ r, v = some (.ref r) ∧ h0.size ≤ r ∧ Keep h0 h [] ∧ Av Z h r .long k (fun j => .long (f j))) := by
  have hw := G.1
  refine Ctr.of (n1 := n0) #[.val (.ref b), .val (.int (Int32.ofNat k)), .unset] (plainFor_of_name pn0) (fun m => by first | (simp [entryFrame, mkF, argsToLocals, Value.category, maxLocals]; done) | rfl) ?_
  intro p e s m below meth c C
  refine g_iloadN C d11_0 (v := (Int32.ofNat k)) rfl (q := 1) rfl ?_
  refine g_aloadN C d11_1 (v := (.ref b)) rfl rfl (q := 2) rfl ?_
  refine g_alen C d11_2 A0 (z := (Int32.ofNat N)) rfl (q := 3) rfl ?_
  refine g_icmp_ne C d11_3 (q' := 14) (q := 6) (by decide) (by decide) rfl (fun hne => ?_) (fun heq => ?_)
  ·
    refine g_iloadN C d11_14 (v := (Int32.ofNat k)) rfl (q := 15) rfl ?_
    refine g_newarrayE C d11_15 (wd15 hw) (ofNat_nonneg (by omega)) (cap := 16) (by rw [Int32.toNatClampNeg_ofNat_of_lt (by omega)]; omega) (by decide) (by decide) (by decide) (ad := "[J") rfl (q := 17) rfl (fun r h1 k1 q1 E1 A1 F1 => ?_)
    have B1 : Av Z h1 r .long k (fun j => .long ((fun _ => 0) j)) := by
      have := Av.new A1 (ofNat_nonneg (by omega))
      rw [Int32.toNatClampNeg_ofNat_of_lt (by omega)] at this
      exact this
    refine g_astoreN C d11_17 rfl (L' := #[.val (.ref b), .val (.int (Int32.ofNat k)), .val (.ref r)]) rfl (q := 18) rfl ?_
    refine g_aloadN C d11_18 (v := (.ref b)) rfl rfl (q := 19) rfl ?_
    refine g_iconst C d11_19 (z := (0 : Int32)) rfl (q := 20) rfl ?_
    refine g_aloadN C d11_20 (v := (.ref r)) rfl rfl (q := 21) rfl ?_
    refine g_iconst C d11_21 (z := (0 : Int32)) rfl (q := 22) rfl ?_
    refine g_aloadN C d11_22 (v := (.ref b)) rfl rfl (q := 23) rfl ?_
    refine g_alen C d11_23 (A0.ext E1) (z := (Int32.ofNat N)) rfl (q := 24) rfl ?_
    refine g_iloadN C d11_24 (v := (Int32.ofNat k)) rfl (q := 25) rfl ?_
    refine g_callS C (W := 4) (argsL := [(.int (Int32.ofNat N)), (.int (Int32.ofNat k))]) (rest := [(.int (0 : Int32)), (.ref r), (.int (0 : Int32)), (.ref b)]) d11_25 (wd71 hw) (wd72 hw) (wd73 hw) (wd74 hw) (by decide) (Ctr.bk (c_min l Z a0 kc ku kd ka G N k (by omega) hk h1 n0) C (wd74 hw) (wd73 hw) (by decide) (by decide)) (by decide) (by decide) rfl (lenOf pd3 rfl) rfl rfl (q := 28) rfl (fun v2 h2 hQ2 => ?_)
    obtain ⟨rfl, rfl⟩ := hQ2
    refine ⟨[(.int (Int32.ofNat k)), (.int (0 : Int32)), (.ref r), (.int (0 : Int32)), (.ref b)], rfl, ?_⟩
    refine g_acopy C (sp := 0) (dp := 0) (nn := k) d11_28 (wd75 hw) (wd78 hw) (wd76 hw) (wd77 hw) (A0.ext E1) B1 rfl (fun _ _ => rfl) (fun _ _ => rfl) rfl rfl rfl (by omega) (by omega) (by rw [q1]; exact Z0) rfl (by decide) (W := 0) rfl (by decide) (q := 31) rfl (fun h3 K3 A3 => ?_)
    refine g_aloadN C d11_31 (v := (.ref r)) rfl rfl (q := 32) rfl ?_
    refine g_areturn C d11_32 rfl rfl (Nat.le_refl _) (by decide) (by decide) ⟨r, rfl, by rw [q1]; exact Nat.le_refl _, (Ext.kp E1 []).trans K3 (fun x hx => Or.inr (by cases List.mem_singleton.mp hx; rw [q1]; exact Nat.le_refl _)), A3.congr fun j hj => by simp [hj]⟩
  ·
    have ek : k = N := ofNat_inj (by omega) (by omega) heq
    subst ek
    refine g_aloadN C d11_6 (v := (.ref b)) rfl rfl (q := 7) rfl ?_
    refine g_clone C d11_7 (wd91 hw) (wd92 hw) (wd96 hw) (wd94 hw) (wd95 hw) (wd97 hw) A0 (fun _ _ => rfl) X1 rfl (by decide) (W := 0) rfl (by decide) (cap := 16) (by omega) (by decide) (by decide) (q := 10) rfl (fun r h1 q1 E1 A1 F1 => ?_)
    refine g_castY C d11_10 (wd98 hw) (Ins.self F1) (q := 13) rfl ?_
    refine g_areturn C d11_13 rfl rfl (Nat.le_refl _) (by decide) (by decide) ⟨r, rfl, by rw [q1]; exact Nat.le_refl _, Ext.kp E1 [], A1⟩
set_option maxRecDepth 65536 in
set_option maxHeartbeats 40000000 in
theorem loopP {p : Program} {e : Env} {s : State} {m : MethodId} {args : Array Value} {below : List Frame} {meth : Method} {c : Code} (l : Launch) (Z : State) (a0 : Array Value) (kc ku kd ka : Addr) (G : Gl Z a0 kc ku kd ka) (a cA xA : Addr) (cr : Nat → Int64) (ch : Nat → Int32) (n : Nat) (cnt wr : Int32) (o : Bool) (h0 : Heap) (n0 : Nat) (T : TY Z h0 n0 a cA xA cr ch n cnt wr o) (b : Addr) (N : Nat) (hNo : N = (if o then n else 0)) (hN : N ≤ 16) (Z0 : n0 ≤ h0.size) (hb : h0.size ≤ b) (C : Cx p s m meth c Z "com/example/nuthatch/nuthatch/store/JournalTally" "passing" prog_42_method_4_code 4 (some (.array .long))) (d i : Nat) (h : Heap) (g : Nat → Int64) (hd : d = N - i) (hiN : i ≤ N) (K : Keep h0 h []) (B : Av Z h b .long N (fun j => .long (g j))) (hg : ∀ j, j < (pas cr ch i).length → g j = (pas cr ch i).getD j 0) (EB : Exa Z h b "[J") :
    Go p l e rmPs s m args below meth c (FinN s below rmPs n0 (fun v h => ∃ r, v = some (.ref r) ∧ h0.size ≤ r ∧ Keep h0 h [] ∧ Av Z h r .long (pas cr ch (if o then n else 0)).length (fun j => .long ((pas cr ch (if o then n else 0)).getD j 0)))) n0 h 1 16 22 #[.val (.ref a), .val (.ref b), .val (.int (Int32.ofNat (pas cr ch i).length)), .val (.int (Int32.ofNat i))] [] := by
  have hw := G.1
  induction d generalizing i h g with
  | zero =>
    have ei : i = N := by omega
    subst ei
    have pl := pas_len cr ch i
    refine g_iloadN C d10_22 (v := (Int32.ofNat i)) rfl (q := 23) rfl ?_
    refine g_aloadN C d10_23 (v := (.ref b)) rfl rfl (q := 24) rfl ?_
    refine g_alen C d10_24 B (z := (Int32.ofNat i)) rfl (q := 25) rfl ?_
    refine g_icmp_ge C d10_25 (q' := 55) (q := 28) (by decide) (by decide) rfl (fun hy => ?_) (fun hn => absurd hn (fun q => absurd ((ofNat_lt (by omega) (by omega)).mp q) (by omega)))
    refine g_aloadN C d10_55 (v := (.ref b)) rfl rfl (q := 56) rfl ?_
    refine g_iloadN C d10_56 (v := (Int32.ofNat (pas cr ch i).length)) rfl (q := 57) rfl ?_
    refine g_callS C (W := 0) (argsL := [(.ref b), (.int (Int32.ofNat (pas cr ch i).length))]) (rest := []) d10_57 (wd67 hw) (wd68 hw) (wd69 hw) (wd70 hw) (by decide) (Ctr.bk (c_copyof l Z a0 kc ku kd ka G b i (pas cr ch i).length g (by omega) pl h n0 (Nat.le_trans Z0 K.1) B EB) C (wd70 hw) (wd69 hw) (by decide) (by decide)) (by decide) (by decide) rfl (lenOf pd4 rfl) rfl rfl (q := 60) rfl (fun v2 h2 hQ2 => ?_)
    obtain ⟨r, rfl, hr, K2, R2⟩ := hQ2
    refine ⟨[(.ref r)], rfl, ?_⟩
    refine g_areturn C d10_60 rfl rfl (Nat.le_refl _) (by decide) (by decide) ⟨r, rfl, Nat.le_trans K.1 hr, K.trans K2 (by simp), by rw [← hNo]; exact R2.congr fun j hj => by rw [hg j hj]⟩
  | succ d ih =>
    have hi : i < N := by omega
    have pl := pas_len cr ch i
    have F := T.1.keep K (by simp)
    have A1 := T.2.1.keep K (by simp)
    have A2 := T.2.2.1.keep K (by simp)
    refine g_iloadN C d10_22 (v := (Int32.ofNat i)) rfl (q := 23) rfl ?_
    refine g_aloadN C d10_23 (v := (.ref b)) rfl rfl (q := 24) rfl ?_
    refine g_alen C d10_24 B (z := (Int32.ofNat N)) rfl (q := 25) rfl ?_
    refine g_icmp_ge C d10_25 (q' := 55) (q := 28) (by decide) (by decide) rfl (fun hy => absurd ((ofNat_lt (by omega) (by omega)).mpr hi) hy) (fun hn => ?_)
    refine g_aloadN C d10_28 (v := (.ref a)) rfl rfl (q := 29) rfl ?_
    refine g_getf C d10_29 (host := "") (Or.inl (wd19 hw)) Via.refl F.2.2.1 (q := 32) rfl ?_
    refine g_iloadN C d10_32 (v := (Int32.ofNat i)) rfl (q := 33) rfl ?_
    refine g_iaload C d10_33 (i := i) A2 (by omega) rfl rfl (q := 34) rfl ?_
    refine g_if_ne C d10_34 (q' := 49) (q := 37) (by decide) (by decide) rfl (fun hnz => ?_) (fun hz => ?_)
    ·
      refine g_iinc C d10_49 rfl (L' := #[.val (.ref a), .val (.ref b), .val (.int (Int32.ofNat (pas cr ch i).length)), .val (.int ((Int32.ofNat i) + (1 : Int32)))]) rfl (q := 52) rfl ?_
      refine g_goto C d10_52 (q := 22) (by decide) (by decide) ?_
      have ep : pas cr ch (i + 1) = pas cr ch i := by rw [pas_succ, if_neg hnz]; simp
      rw [ofNat_add1, ← ep]
      exact ih (i + 1) h g (by omega) (by omega) K B (by rw [ep]; exact hg) EB
    ·
      refine g_aloadN C d10_37 (v := (.ref b)) rfl rfl (q := 38) rfl ?_
      refine g_iloadN C d10_38 (v := (Int32.ofNat (pas cr ch i).length)) rfl (q := 39) rfl ?_
      refine g_iinc C d10_39 rfl (L' := #[.val (.ref a), .val (.ref b), .val (.int ((Int32.ofNat (pas cr ch i).length) + (1 : Int32))), .val (.int (Int32.ofNat i))]) rfl (q := 42) rfl ?_
      refine g_aloadN C d10_42 (v := (.ref a)) rfl rfl (q := 43) rfl ?_
      refine g_getf C d10_43 (host := "") (Or.inl (wd16 hw)) Via.refl F.2.1 (q := 46) rfl ?_
      refine g_iloadN C d10_46 (v := (Int32.ofNat i)) rfl (q := 47) rfl ?_
      refine g_laload C d10_47 (i := i) A1 (by omega) rfl rfl (q := 48) rfl ?_
      refine g_lastore C d10_48 (i := (pas cr ch i).length) B (by omega) rfl (Nat.le_trans Z0 hb) (q := 49) rfl (fun h2 W2 B2 => ?_)
      refine g_iinc C d10_49 rfl (L' := #[.val (.ref a), .val (.ref b), .val (.int ((Int32.ofNat (pas cr ch i).length) + (1 : Int32))), .val (.int ((Int32.ofNat i) + (1 : Int32)))]) rfl (q := 52) rfl ?_
      refine g_goto C d10_52 (q := 22) (by decide) (by decide) ?_
      have ep : pas cr ch (i + 1) = pas cr ch i ++ [cr i] := by rw [pas_succ, if_pos hz]
      have el : (pas cr ch (i + 1)).length = (pas cr ch i).length + 1 := by rw [ep]; simp
      rw [ofNat_add1, ofNat_add1, ← el]
      refine ih (i + 1) h2 (upd g (pas cr ch i).length (cr i)) (by omega) (by omega) (K.wr W2 (Or.inr hb)) B2.updJ (fun j hj => ?_) (EB.wr W2)
      rw [ep]
      by_cases e : j = (pas cr ch i).length
      · subst e; simp [upd]
      · have hj' : j < (pas cr ch i).length := by omega
        simp only [upd, if_neg e, hg j hj', List.getD_eq_getElem?_getD, List.getElem?_append_left hj']
set_option maxRecDepth 65536 in
set_option maxHeartbeats 40000000 in
theorem c_passing (l : Launch) (Z : State) (a0 : Array Value) (kc ku kd ka : Addr) (G : Gl Z a0 kc ku kd ka) (a cA xA : Addr) (cr : Nat → Int64) (ch : Nat → Int32) (n : Nat) (cnt wr : Int32) (o : Bool) (h0 : Heap) (n0 : Nat) (T : TY Z h0 n0 a cA xA cr ch n cnt wr o) (hn : n ≤ 16) (Z0 : n0 ≤ h0.size) :
    Ctr l Z (⟨"com/example/nuthatch/nuthatch/store/JournalTally", "passing", "()[J"⟩ : MethodName) prog_42_method_4_code 4 (some (.array .long)) rmPs #[(.ref a)] h0 n0 (fun v h => ∃ r, v = some (.ref r) ∧ h0.size ≤ r ∧ Keep h0 h [] ∧ Av Z h r .long (pas cr ch (if o then n else 0)).length (fun j => .long ((pas cr ch (if o then n else 0)).getD j 0))) := by
  have hw := G.1
  have F := T.1
  refine Ctr.of (n1 := n0) #[.val (.ref a), .unset, .unset, .unset] (plainFor_of_name pn1) (fun m => by first | (simp [entryFrame, mkF, argsToLocals, Value.category, maxLocals]; done) | rfl) ?_
  intro p e s m below meth c C
  refine g_aloadN C d10_0 (v := (.ref a)) rfl rfl (q := 1) rfl ?_
  refine g_getf C d10_1 (host := "") (Or.inl (wd21 hw)) Via.refl F.2.2.2.2.2.2 (q := 4) rfl ?_
  refine Go.joinR (pc' := 15) (fun N : Nat => N = (if o then n else 0)) (fun _ => #[.val (.ref a), .unset, .unset, .unset]) (fun N => [.int (Int32.ofNat N)]) ?_ (fun J => ?_)
  ·
    intro N hNo
    have hN : N ≤ 16 := by cases o <;> simp at hNo <;> omega
    refine g_newarrayE C d10_15 (wd15 hw) (ofNat_nonneg (by omega)) (cap := 16) (by rw [Int32.toNatClampNeg_ofNat_of_lt (by omega)]; omega) (by decide) (by decide) (by decide) (ad := "[J") rfl (q := 17) rfl (fun b h1 k1 q1 E1 A1 F1 => ?_)
    have B1 : Av Z h1 b .long N (fun j => .long ((fun _ => 0) j)) := by
      have := Av.new A1 (ofNat_nonneg (by omega))
      rw [Int32.toNatClampNeg_ofNat_of_lt (by omega)] at this
      exact this
    refine g_astoreN C d10_17 rfl (L' := #[.val (.ref a), .val (.ref b), .unset, .unset]) rfl (q := 18) rfl ?_
    refine g_iconst C d10_18 (z := (0 : Int32)) rfl (q := 19) rfl ?_
    refine g_istoreN C d10_19 (L' := #[.val (.ref a), .val (.ref b), .val (.int (0 : Int32)), .unset]) rfl (q := 20) rfl ?_
    refine g_iconst C d10_20 (z := (0 : Int32)) rfl (q := 21) rfl ?_
    refine g_istoreN C d10_21 (L' := #[.val (.ref a), .val (.ref b), .val (.int (0 : Int32)), .val (.int (0 : Int32))]) rfl (q := 22) rfl ?_
    exact loopP l Z a0 kc ku kd ka G a cA xA cr ch n cnt wr o h0 n0 T b N hNo hN Z0 (by rw [q1]; exact Nat.le_refl _) C N 0 h1 (fun _ => 0) (by omega) (by omega) (Ext.kp E1 []) B1 (fun j hj => by simp [pas] at hj) F1
  ·
    refine g_if_eq C d10_4 (q' := 14) (q := 7) (by decide) (by decide) rfl (fun hof => ?_) (fun hot => ?_)
    ·
      refine g_iconst C d10_14 (z := (0 : Int32)) rfl (q := 15) rfl ?_
      exact J 0 (by rw [(bool_z o).mp hof]; rfl)
    ·
      have ho : o = true := by cases o; exact absurd rfl hot; rfl
      refine g_aloadN C d10_7 (v := (.ref a)) rfl rfl (q := 8) rfl ?_
      refine g_getf C d10_8 (host := "") (Or.inl (wd38 hw)) Via.refl F.2.2.2.1 (q := 11) rfl ?_
      refine g_goto C d10_11 (q := 15) (by decide) (by decide) ?_
      exact J n (by rw [ho]; rfl)
theorem and_max (x : Int64) : ¬ (x &&& (9223372036854775807 : Int64)) < 0 := by
  rw [Int64.lt_iff_toInt_lt]
  have e0 : (0 : Int64).toInt = 0 := rfl
  have e1 : (x &&& (9223372036854775807 : Int64)).toBitVec.msb = false := by
    rw [Int64.toBitVec_and, BitVec.msb_and]
    have : ((9223372036854775807 : Int64).toBitVec).msb = false := by decide
    rw [this, Bool.and_false]
  have e2 : (x &&& (9223372036854775807 : Int64)).toInt = ((x &&& (9223372036854775807 : Int64)).toBitVec.toNat : Int) := by
    show ((x &&& (9223372036854775807 : Int64)).toBitVec).toInt = _
    rw [BitVec.toInt_eq_msb_cond, e1]; rfl
  omega
theorem TY.ws {Z : State} {h : Heap} {n0 : Nat} {a cA xA : Addr} {cr : Nat → Int64} {ch : Nat → Int32} {n : Nat} {cnt wr : Int32} {o : Bool} (T : TY Z h n0 a cA xA cr ch n cnt wr o) {w : Nat} (hw : w ≤ n0) : ∀ x ∈ [a, cA, xA], w ≤ x := by
  obtain ⟨-, -, -, g1, g2, g3, -⟩ := T
  intro x hx
  simp only [List.mem_cons, List.not_mem_nil, or_false] at hx
  rcases hx with rfl | rfl | rfl <;> omega
theorem own_apart {A : Nat} {xs ys : List Addr} (h1 : ∀ x ∈ xs, A ≤ x) (h2 : ∀ y ∈ ys, y < A) : ∀ x ∈ xs, x ∉ ys := fun x hx hy => Nat.not_lt.mpr (h1 x hx) (h2 x hy)
theorem TY.lts {Z : State} {h : Heap} {n0 : Nat} {a cA xA : Addr} {cr : Nat → Int64} {ch : Nat → Int32} {n : Nat} {cnt wr : Int32} {o : Bool} (T : TY Z h n0 a cA xA cr ch n cnt wr o) : a < h.size ∧ cA < h.size ∧ xA < h.size := ⟨T.1.1.lt, T.2.1.lt, T.2.2.1.lt⟩
abbrev rmCw : Room := { frames := 4, cells := 0, slots := 0, locals := 128 }
/-- what dropPassing leaves of the first i -/
def DR (cr : Nat → Int64) (ch : Nat → Int32) (i : Nat) (cr' : Nat → Int64) (ch' : Nat → Int32) (k : Nat) : Prop :=
  k ≤ i ∧ (∀ j, j < k → 0 < ch' j ∧ ∃ x, x < i ∧ cr' j = cr x ∧ ch' j = ch x) ∧ (∀ x, x < i → 0 < ch x → ∃ j, j < k ∧ cr' j = cr x ∧ ch' j = ch x) ∧ (∀ j1 j2, j1 < j2 → j2 < k → cr' j1 < cr' j2)
theorem DR.skip {cr cr' : Nat → Int64} {ch ch' : Nat → Int32} {i k : Nat} (D : DR cr ch i cr' ch' k) (h : ¬ 0 < ch i) : DR cr ch (i + 1) cr' ch' k := by
  obtain ⟨d1, d2, d3, d4⟩ := D
  refine ⟨by omega, fun j hj => ?_, fun x hx hp => ?_, d4⟩
  · obtain ⟨p, x, hx, e⟩ := d2 j hj; exact ⟨p, x, by omega, e⟩
  · by_cases e : x = i
    · subst e; exact absurd hp h
    · exact d3 x (by omega) hp
theorem DR.take {cr cr' : Nat → Int64} {ch ch' : Nat → Int32} {i k : Nat} (D : DR cr ch i cr' ch' k) (h : 0 < ch i) (hs : ∀ a b, a < b → b < i + 1 → cr a < cr b) : DR cr ch (i + 1) (upd cr' k (cr i)) (upd ch' k (ch i)) (k + 1) := by
  obtain ⟨d1, d2, d3, d4⟩ := D
  refine ⟨by omega, fun j hj => ?_, fun x hx hp => ?_, fun j1 j2 h1 h2 => ?_⟩
  · by_cases e : j = k
    · simp only [upd, e, if_true]; exact ⟨h, i, by omega, rfl, rfl⟩
    · simp only [upd, if_neg e]
      obtain ⟨p, x, hx, e⟩ := d2 j (by omega); exact ⟨p, x, by omega, e⟩
  · by_cases e : x = i
    · subst e; exact ⟨k, by omega, by simp [upd], by simp [upd]⟩
    · obtain ⟨j, hj, e1, e2⟩ := d3 x (by omega) hp
      have ne : ¬ j = k := by omega
      exact ⟨j, by omega, by simp only [upd, if_neg ne]; exact e1, by simp only [upd, if_neg ne]; exact e2⟩
  · have n1 : ¬ j1 = k := by omega
    by_cases e : j2 = k
    · simp only [upd, if_neg n1, e, if_true]
      obtain ⟨-, x, hx, e1, -⟩ := d2 j1 (by omega)
      rw [e1]; exact hs x i hx (by omega)
    · simp only [upd, if_neg n1, if_neg e]; exact d4 j1 j2 h1 (by omega)
set_option maxRecDepth 65536 in
set_option maxHeartbeats 40000000 in
theorem loopD {p : Program} {e : Env} {s : State} {m : MethodId} {args : Array Value} {below : List Frame} {meth : Method} {c : Code} (l : Launch) (Z : State) (a0 : Array Value) (kc ku kd ka : Addr) (G : Gl Z a0 kc ku kd ka) (a cA xA : Addr) (cr : Nat → Int64) (ch : Nat → Int32) (n : Nat) (cnt wr : Int32) (o : Bool) (h0 : Heap) (n0 : Nat) (ho : o = true) (hn : n < 64) (hs : o = true → ∀ i j, i < j → j < n → cr i < cr j) (C : Cx p s m meth c Z "com/example/nuthatch/nuthatch/store/JournalTally" "dropPassing" prog_42_method_5_code 3 none) (d i k : Nat) (h : Heap) (fr : Nat → Int64) (fh : Nat → Int32) (hd : d = n - i) (hiN : i ≤ n) (T : TY Z h n0 a cA xA fr fh n cnt wr o) (K : Keep h0 h [a, cA, xA]) (hb : ∀ j, i ≤ j → fr j = cr j ∧ fh j = ch j) (D : DR cr ch i fr fh k) :
    Go p l e rm0 s m args below meth c (FinN s below rm0 n0 (fun v h => v = none ∧ Keep h0 h [a, cA, xA] ∧ ((o = false ∧ TY Z h n0 a cA xA cr ch n cnt wr o) ∨ (o = true ∧ ∃ cr' ch' k, TY Z h n0 a cA xA cr' ch' k wr wr true ∧ DR cr ch n cr' ch' k)))) n0 h 0 0 11 #[.val (.ref a), .val (.int (Int32.ofNat k)), .val (.int (Int32.ofNat i))] [] := by
  have hw := G.1
  induction d generalizing i k h fr fh with
  | zero =>
    have ei : i = n := by omega
    subst ei
    obtain ⟨F, A1, A2, ga, gc, gx, d1, d2, d3⟩ := T
    refine g_iloadN C d8_11 (v := (Int32.ofNat i)) rfl (q := 12) rfl ?_
    refine g_aloadN C d8_12 (v := (.ref a)) rfl rfl (q := 13) rfl ?_
    refine g_getf C d8_13 (host := "") (Or.inl (wd38 hw)) Via.refl F.2.2.2.1 (q := 16) rfl ?_
    refine g_icmp_ge C d8_16 (q' := 61) (q := 19) (by decide) (by decide) rfl (fun hy => ?_) (fun hn => absurd ((ofNat_lt (by omega) (by omega)).mp hn) (by omega))
    refine g_aloadN C d8_61 (v := (.ref a)) rfl rfl (q := 62) rfl ?_
    refine g_iloadN C d8_62 (v := (Int32.ofNat k)) rfl (q := 63) rfl ?_
    refine g_putf C d8_63 (host := "") (Or.inl (wd38 hw)) Via.refl F.2.2.2.1 F.1 (Or.inl (wd39 hw)) (wd7 hw) (ty := .int) (by decide) rfl rfl ga (q := 66) rfl (fun h2 W2 => ?_)
    have F := F.w2 hw W2
    have A1 := A1.other W2 (Ne.symm d1)
    have A2 := A2.other W2 (Ne.symm d2)
    refine g_aloadN C d8_66 (v := (.ref a)) rfl rfl (q := 67) rfl ?_
    refine g_aloadN C d8_67 (v := (.ref a)) rfl rfl (q := 68) rfl ?_
    refine g_getf C d8_68 (host := "") (Or.inl (wd41 hw)) Via.refl F.2.2.2.2.2.1 (q := 71) rfl ?_
    refine g_putf C d8_71 (host := "") (Or.inl (wd43 hw)) Via.refl F.2.2.2.2.1 F.1 (Or.inl (wd44 hw)) (wd7 hw) (ty := .int) (by decide) rfl rfl ga (q := 74) rfl (fun h3 W3 => ?_)
    have F := F.w3 hw W3
    have A1 := A1.other W3 (Ne.symm d1)
    have A2 := A2.other W3 (Ne.symm d2)
    refine g_return C d8_74 (Nat.le_refl _) (by decide) (by decide) ⟨rfl, (K.wr W2 (Or.inl (by simp))).wr W3 (Or.inl (by simp)), Or.inr ⟨ho, fr, fh, k, ⟨by rw [ho] at F; exact F, A1, A2, ga, gc, gx, d1, d2, d3⟩, D⟩⟩
  | succ d ih =>
    have hi : i < n := by omega
    have T' := T
    obtain ⟨F, A1, A2, ga, gc, gx, d1, d2, d3⟩ := T'
    have hki := D.1
    refine g_iloadN C d8_11 (v := (Int32.ofNat i)) rfl (q := 12) rfl ?_
    refine g_aloadN C d8_12 (v := (.ref a)) rfl rfl (q := 13) rfl ?_
    refine g_getf C d8_13 (host := "") (Or.inl (wd38 hw)) Via.refl F.2.2.2.1 (q := 16) rfl ?_
    refine g_icmp_ge C d8_16 (q' := 61) (q := 19) (by decide) (by decide) rfl (fun hy => absurd ((ofNat_lt (by omega) (by omega)).mpr hi) hy) (fun hn => ?_)
    refine g_aloadN C d8_19 (v := (.ref a)) rfl rfl (q := 20) rfl ?_
    refine g_getf C d8_20 (host := "") (Or.inl (wd19 hw)) Via.refl F.2.2.1 (q := 23) rfl ?_
    refine g_iloadN C d8_23 (v := (Int32.ofNat i)) rfl (q := 24) rfl ?_
    refine g_iaload C d8_24 (i := i) A2 (by omega) rfl rfl (q := 25) rfl ?_
    have e1 := (hb i (Nat.le_refl _)).1
    have e2 := (hb i (Nat.le_refl _)).2
    refine g_if_le C d8_25 (q' := 55) (q := 28) (by decide) (by decide) rfl (fun hnp => ?_) (fun hp => ?_)
    ·
      refine g_iinc C d8_55 rfl (L' := #[.val (.ref a), .val (.int (Int32.ofNat k)), .val (.int ((Int32.ofNat i) + (1 : Int32)))]) rfl (q := 58) rfl ?_
      refine g_goto C d8_58 (q := 11) (by decide) (by decide) ?_
      rw [ofNat_add1]
      exact ih (i + 1) k h fr fh (by omega) (by omega) T K (fun j hj => hb j (by omega)) (D.skip (by rw [← e2]; exact hnp))
    ·
      refine g_aloadN C d8_28 (v := (.ref a)) rfl rfl (q := 29) rfl ?_
      refine g_getf C d8_29 (host := "") (Or.inl (wd16 hw)) Via.refl F.2.1 (q := 32) rfl ?_
      refine g_iloadN C d8_32 (v := (Int32.ofNat k)) rfl (q := 33) rfl ?_
      refine g_aloadN C d8_33 (v := (.ref a)) rfl rfl (q := 34) rfl ?_
      refine g_getf C d8_34 (host := "") (Or.inl (wd16 hw)) Via.refl F.2.1 (q := 37) rfl ?_
      refine g_iloadN C d8_37 (v := (Int32.ofNat i)) rfl (q := 38) rfl ?_
      refine g_laload C d8_38 (i := i) A1 (by omega) rfl rfl (q := 39) rfl ?_
      refine g_lastore C d8_39 (i := k) A1 (by omega) rfl gc (q := 40) rfl (fun h2 W2 B1 => ?_)
      have F := F.other W2 d1
      have A2 := A2.other W2 (Ne.symm d3)
      have A1 := B1.updJ
      refine g_aloadN C d8_40 (v := (.ref a)) rfl rfl (q := 41) rfl ?_
      refine g_getf C d8_41 (host := "") (Or.inl (wd19 hw)) Via.refl F.2.2.1 (q := 44) rfl ?_
      refine g_iloadN C d8_44 (v := (Int32.ofNat k)) rfl (q := 45) rfl ?_
      refine g_aloadN C d8_45 (v := (.ref a)) rfl rfl (q := 46) rfl ?_
      refine g_getf C d8_46 (host := "") (Or.inl (wd19 hw)) Via.refl F.2.2.1 (q := 49) rfl ?_
      refine g_iloadN C d8_49 (v := (Int32.ofNat i)) rfl (q := 50) rfl ?_
      refine g_iaload C d8_50 (i := i) A2 (by omega) rfl rfl (q := 51) rfl ?_
      refine g_iastore C d8_51 (i := k) A2 (by omega) rfl gx (q := 52) rfl (fun h3 W3 B2 => ?_)
      have F := F.other W3 d2
      have A1 := A1.other W3 d3
      have A2 := B2.updI
      refine g_iinc C d8_52 rfl (L' := #[.val (.ref a), .val (.int ((Int32.ofNat k) + (1 : Int32))), .val (.int (Int32.ofNat i))]) rfl (q := 55) rfl ?_
      refine g_iinc C d8_55 rfl (L' := #[.val (.ref a), .val (.int ((Int32.ofNat k) + (1 : Int32))), .val (.int ((Int32.ofNat i) + (1 : Int32)))]) rfl (q := 58) rfl ?_
      refine g_goto C d8_58 (q := 11) (by decide) (by decide) ?_
      rw [ofNat_add1, ofNat_add1]
      refine ih (i + 1) (k + 1) h3 _ _ (by omega) (by omega) ⟨F, A1, A2, ga, gc, gx, d1, d2, d3⟩ ((K.wr W2 (Or.inl (by simp))).wr W3 (Or.inl (by simp))) (fun j hj => ?_) ?_
      · have ne : ¬ j = k := by omega
        simp only [upd, if_neg ne]; exact hb j (by omega)
      · rw [e1, e2]; exact D.take (by rw [← e2]; exact hp) (fun a b h1 h2 => hs ho a b h1 (by omega))
set_option maxRecDepth 65536 in
set_option maxHeartbeats 40000000 in
theorem c_drop (l : Launch) (Z : State) (a0 : Array Value) (kc ku kd ka : Addr) (G : Gl Z a0 kc ku kd ka) (a cA xA : Addr) (cr : Nat → Int64) (ch : Nat → Int32) (n : Nat) (cnt wr : Int32) (o : Bool) (h0 : Heap) (n0 : Nat) (T : TY Z h0 n0 a cA xA cr ch n cnt wr o) (hn : n < 64) (hs : o = true → ∀ i j, i < j → j < n → cr i < cr j) :
    Ctr l Z (⟨"com/example/nuthatch/nuthatch/store/JournalTally", "dropPassing", "()V"⟩ : MethodName) prog_42_method_5_code 3 none rm0 #[(.ref a)] h0 n0 (fun v h => v = none ∧ Keep h0 h [a, cA, xA] ∧ ((o = false ∧ TY Z h n0 a cA xA cr ch n cnt wr o) ∨ (o = true ∧ ∃ cr' ch' k, TY Z h n0 a cA xA cr' ch' k wr wr true ∧ DR cr ch n cr' ch' k))) := by
  have hw := G.1
  have F := T.1
  refine Ctr.of (n1 := n0) #[.val (.ref a), .unset, .unset] (plainFor_of_name pn1) (fun m => by first | (simp [entryFrame, mkF, argsToLocals, Value.category, maxLocals]; done) | rfl) ?_
  intro p e s m below meth c C
  refine g_aloadN C d8_0 (v := (.ref a)) rfl rfl (q := 1) rfl ?_
  refine g_getf C d8_1 (host := "") (Or.inl (wd21 hw)) Via.refl F.2.2.2.2.2.2 (q := 4) rfl ?_
  refine g_if_eq C d8_4 (q' := 74) (q := 7) (by decide) (by decide) rfl (fun hof => ?_) (fun hot => ?_)
  ·
    refine g_return C d8_74 (Nat.le_refl _) (by decide) (by decide) ⟨rfl, Keep.refl _ _, Or.inl ⟨(bool_z o).mp hof, T⟩⟩
  ·
    have ho : o = true := by cases o; exact absurd rfl hot; rfl
    refine g_iconst C d8_7 (z := (0 : Int32)) rfl (q := 8) rfl ?_
    refine g_istoreN C d8_8 (L' := #[.val (.ref a), .val (.int (0 : Int32)), .unset]) rfl (q := 9) rfl ?_
    refine g_iconst C d8_9 (z := (0 : Int32)) rfl (q := 10) rfl ?_
    refine g_istoreN C d8_10 (L' := #[.val (.ref a), .val (.int (0 : Int32)), .val (.int (0 : Int32))]) rfl (q := 11) rfl ?_
    exact loopD l Z a0 kc ku kd ka G a cA xA cr ch n cnt wr o h0 n0 ho hn hs C n 0 0 h0 cr ch (by omega) (by omega) T (Keep.refl _ _) (fun _ _ => ⟨rfl, rfl⟩) ⟨Nat.le_refl _, fun j hj => absurd hj (by omega), fun x hx => absurd hx (by omega), fun _ _ _ hj => absurd hj (by omega)⟩
def lv (op : Int32) : Int32 := if op = 0 then 1 else if op = 3 then 0 else 2
def tl (op : Int32) : Int32 := if op = 0 then 0 else 1
def ko (ku kd ka : Addr) (op : Int32) : Addr := if op = 1 then ku else if op = 2 then ka else kd
set_option maxRecDepth 65536 in
set_option maxHeartbeats 40000000 in
theorem c_live (l : Launch) (Z : State) (a0 : Array Value) (kc ku kd ka : Addr) (G : Gl Z a0 kc ku kd ka) (op : Int32) (h0 : Heap) (n0 : Nat) :
    Ctr l Z (⟨"com/example/nuthatch/nuthatch/store/JournalTallyDropPassingPinLaw", "live", "(I)I"⟩ : MethodName) method_4_code 1 (some .int) rm0 #[(.int op)] h0 n0 (fun v h => h0 = h ∧ v = some (.int (lv op))) := by
  have hw := G.1
  refine Ctr.of (n1 := n0) #[.val (.int op)] (plainFor_of_name pn2) (fun m => by first | (simp [entryFrame, mkF, argsToLocals, Value.category, maxLocals]; done) | rfl) ?_
  intro p e s m below meth c C
  refine g_iloadN C d1_0 (v := op) rfl (q := 1) rfl ?_
  refine g_if_ne C d1_1 (q' := 6) (q := 4) (by decide) (by decide) rfl (fun h1 => ?_) (fun e1 => ?_)
  ·
    refine g_iloadN C d1_6 (v := op) rfl (q := 7) rfl ?_
    refine g_iconst C d1_7 (z := (3 : Int32)) rfl (q := 8) rfl ?_
    refine g_icmp_ne C d1_8 (q' := 13) (q := 11) (by decide) (by decide) rfl (fun h2 => ?_) (fun e2 => ?_)
    ·
      refine g_iconst C d1_13 (z := (2 : Int32)) rfl (q := 14) rfl ?_
      refine g_ireturn C d1_14 (Nat.le_refl _) (by decide) (by decide) ⟨rfl, by simp [lv, h1, h2]⟩
    ·
      refine g_iconst C d1_11 (z := (0 : Int32)) rfl (q := 12) rfl ?_
      refine g_ireturn C d1_12 (Nat.le_refl _) (by decide) (by decide) ⟨rfl, by simp [lv, e2]⟩
  ·
    refine g_iconst C d1_4 (z := (1 : Int32)) rfl (q := 5) rfl ?_
    refine g_ireturn C d1_5 (Nat.le_refl _) (by decide) (by decide) ⟨rfl, by simp [lv, e1]⟩
set_option maxRecDepth 65536 in
set_option maxHeartbeats 40000000 in
theorem c_kindOf (l : Launch) (Z : State) (a0 : Array Value) (kc ku kd ka : Addr) (G : Gl Z a0 kc ku kd ka) (op : Int32) (h0 : Heap) (n0 : Nat) (X0 : Ext Z.heap h0) :
    Ctr l Z (⟨"com/example/nuthatch/nuthatch/store/JournalTallyDropPassingPinLaw", "kindOf", "(I)Lcom/example/nuthatch/nuthatch/store/ChangeRecord$Kind;"⟩ : MethodName) method_2_code 1 (some (.object "com/example/nuthatch/nuthatch/store/ChangeRecord$Kind")) rm0 #[(.int op)] h0 n0 (fun v h => h0 = h ∧ v = some (.ref (ko ku kd ka op))) := by
  have hw := G.1
  obtain ⟨-, S1, S2, S3, S4, -⟩ := G
  refine Ctr.of (n1 := n0) #[.val (.int op)] (plainFor_of_name pn2) (fun m => by first | (simp [entryFrame, mkF, argsToLocals, Value.category, maxLocals]; done) | rfl) ?_
  intro p e s m below meth c C
  refine g_iloadN C d7_0 (v := op) rfl (q := 1) rfl ?_
  refine g_iconst C d7_1 (z := (1 : Int32)) rfl (q := 2) rfl ?_
  refine g_icmp_ne C d7_2 (q' := 9) (q := 5) (by decide) (by decide) rfl (fun h1 => ?_) (fun e1 => ?_)
  ·
    refine g_iloadN C d7_9 (v := op) rfl (q := 10) rfl ?_
    refine g_iconst C d7_10 (z := (2 : Int32)) rfl (q := 11) rfl ?_
    refine g_icmp_ne C d7_11 (q' := 18) (q := 14) (by decide) (by decide) rfl (fun h2 => ?_) (fun e2 => ?_)
    ·
      refine g_gets C d7_18 (host := "") (Or.inl (wd79 hw)) Via.refl (S3.ext X0) (q := 21) rfl ?_
      refine g_areturn C d7_21 rfl rfl (Nat.le_refl _) (by decide) (by decide) ⟨rfl, by simp [ko, h1, h2]⟩
    ·
      refine g_gets C d7_14 (host := "") (Or.inl (wd89 hw)) Via.refl (S4.ext X0) (q := 17) rfl ?_
      refine g_areturn C d7_17 rfl rfl (Nat.le_refl _) (by decide) (by decide) ⟨rfl, by simp [ko, e2]⟩
  ·
    refine g_gets C d7_5 (host := "") (Or.inl (wd48 hw)) Via.refl (S2.ext X0) (q := 8) rfl ?_
    refine g_areturn C d7_8 rfl rfl (Nat.le_refl _) (by decide) (by decide) ⟨rfl, by simp [ko, e1]⟩
/-- what createWithOp makes of the tally -/
def CW (id : Int64) (op : Int32) (cr : Nat → Int64) (ch : Nat → Int32) (n : Nat) (wr : Int32) (o : Bool) (cr' : Nat → Int64) (ch' : Nat → Int32) (n' : Nat) (wr' : Int32) (o' : Bool) : Prop :=
  n' = n + 1 ∧ o' = (o && (n == 0 || decide (cr (n - 1) < id))) ∧ (o' = true → (∀ i, i < n + 1 → cr' i = upd cr n id i ∧ ch' i = upd ch n (lv op) i) ∧ wr' = wr + lv op)
theorem CW.of0 {kc kd kv : Addr} {id : Int64} {cr cr' : Nat → Int64} {ch ch' : Nat → Int32} {n n' : Nat} {wr wr' : Int32} {o o' : Bool} (hk : kv = kc) (M : MA kc kd kv id cr ch n wr o cr' ch' n' wr' o') : CW id 0 cr ch n wr o cr' ch' n' wr' o' := by
  rcases M with ⟨-, rfl, rfl, rfl, rfl, rfl⟩ | ⟨h, -⟩
  · exact ⟨rfl, rfl, fun _ => ⟨fun i _ => ⟨rfl, rfl⟩, rfl⟩⟩
  · exact absurd hk h
theorem CW.of2 {kc ku kd ka : Addr} {id : Int64} {op : Int32} {cr cr' cr2 : Nat → Int64} {ch ch' ch2 : Nat → Int32} {n n' n2 : Nat} {wr wr' wr2 : Int32} {o o' o2 : Bool} (hop : ¬ op = 0) (h3 : op = 1 ∨ op = 2 ∨ op = 3) (h1 : ¬ ku = kc) (h2 : ¬ kd = kc) (h3' : ¬ ka = kc) (h4 : ¬ ku = kd) (h5 : ¬ ka = kd) (hs : o = true → ∀ i j, i < j → j < n → cr i < cr j)
    (M : MA kc kd kc id cr ch n wr o cr' ch' n' wr' o') (M2 : MA kc kd (ko ku kd ka op) id cr' ch' n' wr' o' cr2 ch2 n2 wr2 o2) : CW id op cr ch n wr o cr2 ch2 n2 wr2 o2 := by
  rcases M with ⟨-, rfl, rfl, rfl, rfl, eo⟩ | ⟨h, -⟩
  rotate_left
  · exact absurd rfl h
  have kne : ¬ ko ku kd ka op = kc := by unfold ko; split; exact h1; split; exact h3'; exact h2
  rcases M2 with ⟨h, -⟩ | ⟨-, rfl, rfl, rfl, M2⟩
  · exact absurd h kne
  refine ⟨rfl, eo, fun ho => ?_⟩
  have uqn : ∀ i, i < n + 1 → upd cr n id i = id → i = n := fun i hi e => by
    by_cases q : i = n
    · exact q
    · exfalso
      simp only [upd, if_neg q] at e
      rw [ho] at eo
      have eo := eo.symm
      rw [Bool.and_eq_true] at eo
      obtain ⟨oo, hb⟩ := eo
      have hn : ¬ n = 0 := by omega
      simp [hn] at hb
      by_cases q2 : i = n - 1
      · rw [← q2, e] at hb; exact absurd hb Int64.lt_irrefl
      · have := Int64.lt_trans (hs oo i (n - 1) (by omega) (by omega)) hb
        rw [e] at this; exact absurd this Int64.lt_irrefl
  rcases M2 with ⟨d, -, i, hi, hc, hp, rfl, rfl⟩ | ⟨d, -, i, hi, hc, hp, rfl, rfl⟩ | ⟨N, rfl, rfl⟩
  · obtain rfl := uqn i hi hc
    have e3 : op = 3 := by
      rcases h3 with e | e | e
      · rw [e] at d; exact absurd (show ku = kd from d) h4
      · rw [e] at d; exact absurd (show ka = kd from d) h5
      · exact e
    subst e3
    refine ⟨fun j hj => ⟨rfl, ?_⟩, ?_⟩
    · by_cases q : j = i <;> simp [upd, q, lv]
    · simp [upd, lv]
  · obtain rfl := uqn i hi hc
    have l2 : lv op = 2 := by
      rcases h3 with e | e | e
      · rw [e]; rfl
      · rw [e]; rfl
      · rw [e] at d; exact absurd rfl d
    refine ⟨fun j hj => ⟨rfl, ?_⟩, ?_⟩
    · rw [l2]; by_cases q : j = i
      · simp [upd, q]
      · simp [upd, q]
    · rw [l2, Int32.add_assoc]; rfl
  · exfalso
    rcases N with q | q | ⟨i, hi, hc, hp⟩
    · rw [q] at ho; cases ho
    · exact q n (by omega) (by simp [upd])
    · obtain rfl := uqn i hi hc
      exact hp (by simp [upd])
set_option maxRecDepth 65536 in
set_option maxHeartbeats 40000000 in
theorem c_cwo (l : Launch) (Z : State) (a0 : Array Value) (kc ku kd ka : Addr) (G : Gl Z a0 kc ku kd ka) (a cA xA : Addr) (cr : Nat → Int64) (ch : Nat → Int32) (n : Nat) (cnt wr : Int32) (o : Bool) (h0 : Heap) (n0 : Nat) (T : TY Z h0 n0 a cA xA cr ch n cnt wr o) (id : Int64) (op : Int32) (X0 : Ext Z.heap h0) (hn0 : Z.heap.size ≤ n0) (hn : n < 60) (hop : op = 0 ∨ op = 1 ∨ op = 2 ∨ op = 3) (hs : o = true → ∀ i j, i < j → j < n → cr i < cr j) (hov : o = true → 0 < n → ¬ cr (n - 1) < id → (cr (n - 1)).toInt - id.toInt < 2 ^ 63) :
    Ctr l Z (⟨"com/example/nuthatch/nuthatch/store/JournalTallyDropPassingPinLaw", "createWithOp", "(Lcom/example/nuthatch/nuthatch/store/JournalTally;JI)V"⟩ : MethodName) method_3_code 4 none rmCw #[(.ref a), (.long id), (.int op)] h0 n0 (fun v h => v = none ∧ Keep h0 h [a, cA, xA] ∧ ∃ cr' ch' n' wr' o', TY Z h n0 a cA xA cr' ch' n' (cnt + (1 + tl op)) wr' o' ∧ CW id op cr ch n wr o cr' ch' n' wr' o') := by
  have hw := G.1
  have G' := G
  obtain ⟨-, S1, -, -, -, k1, k2, k3, k4, k5⟩ := G'
  refine Ctr.of (n1 := n0) #[.val (.ref a), .val (.long id), .second, .val (.int op)] (plainFor_of_name pn2) (fun m => by first | (simp [entryFrame, mkF, argsToLocals, Value.category, maxLocals]; done) | rfl) ?_
  intro p e s m below meth c C
  refine g_aloadN C d4_0 (v := (.ref a)) rfl rfl (q := 1) rfl ?_
  refine g_gets C d4_1 (host := "") (Or.inl (wd26 hw)) Via.refl (S1.ext X0) (q := 4) rfl ?_
  refine g_lloadN C d4_4 (v := id) rfl (q := 5) rfl ?_
  refine g_callV C (W := 0) (argsL := [(.ref kc), (.long id)]) (rest := []) (a := a) d4_5 (wd29 hw) (wd30 hw) (wd32 hw) (wd31 hw) (by decide) (nf_of C (wd32 hw)) T.1.1 (Ctr.bk (c_add l Z a0 kc ku kd ka G a cA xA cr ch n cnt wr o h0 n0 T kc id X0 (by omega) hs hov) C (wd33 hw) (wd8 hw) (by decide) (by decide)) (by decide) (by decide) rfl (lenOf pd5 rfl) rfl rfl (q := 8) rfl (fun v1 h1 hQ1 => ?_)
  obtain ⟨rfl, K1, cr1, ch1, n1, wr1, o1, T1, M1⟩ := hQ1
  refine ⟨[], rfl, ?_⟩
  have X1 := Ext.keep X0 K1 (T.ws hn0)
  have C1 := CW.of0 rfl M1
  obtain ⟨en, eo, -⟩ := C1
  have C1 := CW.of0 rfl M1
  refine g_iloadN C d4_8 (v := op) rfl (q := 9) rfl ?_
  refine g_if_eq C d4_9 (q' := 21) (q := 12) (by decide) (by decide) rfl (fun ez => ?_) (fun nz => ?_)
  ·
    refine g_return C d4_21 (Nat.le_refl _) (by decide) (by decide) ⟨rfl, K1, cr1, ch1, n1, wr1, o1, by rw [ez]; exact T1, by rw [ez]; exact C1⟩
  ·
    have cl : cr1 (n1 - 1) = id := by
      rcases M1 with ⟨-, rfl, -, rfl, -, -⟩ | ⟨q, -⟩
      · simp [upd]
      · exact absurd rfl q
    have s1 : o1 = true → ∀ i j, i < j → j < n1 → cr1 i < cr1 j := fun ho i j hij hj => by
      rcases M1 with ⟨-, rfl, -, rfl, -, eo1⟩ | ⟨q, -⟩
      · rw [eo1, Bool.and_eq_true] at ho
        obtain ⟨oo, hb⟩ := ho
        have ni : ¬ i = n := by omega
        by_cases e : j = n
        · have hn : ¬ n = 0 := by omega
          simp [hn] at hb
          simp only [upd, if_neg ni, e, if_true]
          by_cases q2 : i = n - 1
          · rw [q2]; exact hb
          · exact Int64.lt_trans (hs oo i (n - 1) (by omega) (by omega)) hb
        · simp only [upd, if_neg ni, if_neg e]; exact hs oo i j hij (by omega)
      · exact absurd rfl q
    refine g_aloadN C d4_12 (v := (.ref a)) rfl rfl (q := 13) rfl ?_
    refine g_iloadN C d4_13 (v := op) rfl (q := 14) rfl ?_
    refine g_callS C (W := 1) (argsL := [(.int op)]) (rest := [(.ref a)]) d4_14 (wd45 hw) (wd46 hw) (wd4 hw) (wd47 hw) (by decide) (Ctr.bk (c_kindOf l Z a0 kc ku kd ka G op h1 n0 X1) C (wd47 hw) (wd4 hw) (by decide) (by decide)) (by decide) (by decide) rfl (lenOf pd6 rfl) rfl rfl (q := 17) rfl (fun vk hk hQk => ?_)
    obtain ⟨rfl, rfl⟩ := hQk
    refine ⟨[(.ref (ko ku kd ka op)), (.ref a)], rfl, ?_⟩
    refine g_lloadN C d4_17 (v := id) rfl (q := 18) rfl ?_
    refine g_callV C (W := 0) (argsL := [(.ref (ko ku kd ka op)), (.long id)]) (rest := []) (a := a) d4_18 (wd29 hw) (wd30 hw) (wd32 hw) (wd31 hw) (by decide) (nf_of C (wd32 hw)) T1.1.1 (Ctr.bk (c_add l Z a0 kc ku kd ka G a cA xA cr1 ch1 n1 (cnt + 1) wr1 o1 h1 n0 T1 _ id X1 (by omega) s1 (fun _ _ _ => by rw [cl]; omega)) C (wd33 hw) (wd8 hw) (by decide) (by decide)) (by decide) (by decide) rfl (lenOf pd5 rfl) rfl rfl (q := 21) rfl (fun v2 h2 hQ2 => ?_)
    obtain ⟨rfl, K2, cr2, ch2, n2, wr2, o2, T2, M2⟩ := hQ2
    refine ⟨[], rfl, ?_⟩
    refine g_return C d4_21 (Nat.le_refl _) (by decide) (by decide) ⟨rfl, K1.trans K2 (fun x hx => Or.inl hx), cr2, ch2, n2, wr2, o2, by simp only [tl, if_neg nz]; rw [← Int32.add_assoc]; exact T2, CW.of2 nz (hop.resolve_left nz) k1 k2 k3 k4 k5 hs M1 M2⟩
theorem and7 (x : Int32) : ∃ g, g < 8 ∧ x &&& 7 = Int32.ofNat g := by
  refine ⟨(x &&& 7).toBitVec.toNat, ?_, ?_⟩
  · simp only [Int32.toBitVec_and, BitVec.toNat_and]
    exact Nat.lt_succ_of_le Nat.and_le_right
  · apply Int32.toBitVec_inj.mp
    show _ = BitVec.ofNat 32 _
    rw [BitVec.ofNat_toNat]; simp
theorem and3c (x : Int32) : x &&& 3 = 0 ∨ x &&& 3 = 1 ∨ x &&& 3 = 2 ∨ x &&& 3 = 3 := by
  have h : (x &&& 3).toBitVec.toNat < 4 := by
    simp only [Int32.toBitVec_and, BitVec.toNat_and]
    exact Nat.lt_succ_of_le Nat.and_le_right
  have e : x &&& 3 = Int32.ofNat (x &&& 3).toBitVec.toNat := by
    apply Int32.toBitVec_inj.mp
    show _ = BitVec.ofNat 32 _
    rw [BitVec.ofNat_toNat]; simp
  generalize (x &&& 3).toBitVec.toNat = m at h e
  rw [e]
  obtain rfl | rfl | rfl | rfl : m = 0 ∨ m = 1 ∨ m = 2 ∨ m = 3 := by omega
  · exact Or.inl rfl
  · exact Or.inr (Or.inl rfl)
  · exact Or.inr (Or.inr (Or.inl rfl))
  · exact Or.inr (Or.inr (Or.inr rfl))
theorem plus7 (a : Int64) (x : Int32) (ha : a.toInt ≤ 9223372036854775791) : ∃ g : Nat, g < 8 ∧ (a + 1 + (x &&& 7).toInt64).toInt = a.toInt + 1 + g := by
  obtain ⟨g, hg, e⟩ := and7 x
  refine ⟨g, hg, ?_⟩
  have l := Int64.le_toInt a
  have e1 : (1 : Int64).toInt = 1 := rfl
  rw [e, Int64.toInt_add, Int64.toInt_add, Int32.toInt_toInt64, ofNat_toInt (by omega), e1]
  simp only [Int.bmod_def]
  omega
theorem told_eq (x y z : Int32) : 0 + (1 + x) + (1 + y) + (1 + z) = 3 + x + y + z := by
  apply Int32.toBitVec_inj.mp; simp only [Int32.toBitVec_add]
  have e0 : (0 : Int32).toBitVec = 0#32 := rfl
  have e1 : (1 : Int32).toBitVec = 1#32 := rfl
  have e3 : (3 : Int32).toBitVec = 3#32 := rfl
  rw [e0, e1, e3]
  generalize x.toBitVec = p; generalize y.toBitVec = q; generalize z.toBitVec = r
  apply BitVec.eq_of_toNat_eq; simp only [BitVec.toNat_add, BitVec.toNat_ofNat]; omega
theorem told_eq2 (x y z : Int32) : 0 + (1 + y) + (1 + z) + (1 + x) = 3 + x + y + z := by
  rw [told_eq]
  apply Int32.toBitVec_inj.mp; simp only [Int32.toBitVec_add]
  generalize x.toBitVec = p; generalize y.toBitVec = q; generalize z.toBitVec = r; generalize (3 : Int32).toBitVec = u
  apply BitVec.eq_of_toNat_eq; simp only [BitVec.toNat_add]; omega
theorem lv_pos (op : Int32) : 0 < lv op ↔ ¬ op = 3 := by
  unfold lv
  by_cases e : op = 0
  · subst e; decide
  · by_cases e3 : op = 3
    · subst e3; decide
    · simp [e, e3]
theorem pas_nil {cr : Nat → Int64} {ch : Nat → Int32} {n : Nat} (h : ∀ i, i < n → ¬ ch i = 0) : pas cr ch n = [] := by
  induction n with
  | zero => rfl
  | succ n ih => rw [pas_succ, ih fun i hi => h i (by omega), if_neg (h n (by omega))]; rfl
theorem pas_one {cr : Nat → Int64} {ch : Nat → Int32} {n i : Nat} (hi : i < n) (h0 : ch i = 0) (h : ∀ j, j < n → ¬ j = i → ¬ ch j = 0) : pas cr ch n = [cr i] := by
  induction n with
  | zero => omega
  | succ n ih =>
    rw [pas_succ]
    by_cases e : i = n
    · subst e
      rw [pas_nil (fun j hj => h j (by omega) (by omega)), if_pos h0]; rfl
    · rw [ih (by omega) (fun j hj => h j (by omega)), if_neg (h n (by omega) (by omega))]; rfl
theorem pos_ne {x : Int32} (h : 0 < x) : ¬ x = 0 := fun e => by subst e; exact absurd h (by decide)
/-- the three schemes as dropPassing leaves them -/
def D3 (a b c : Int64) (A B C : Int32) (cr : Nat → Int64) (ch : Nat → Int32) (k : Nat) : Prop :=
  k ≤ 3 ∧ (∀ j, j < k → 0 < ch j ∧ ((cr j = a ∧ ch j = lv A) ∨ (cr j = b ∧ ch j = lv B) ∨ (cr j = c ∧ ch j = lv C))) ∧
  (¬ A = 3 → ∃ j, j < k ∧ cr j = a ∧ ch j = lv A) ∧ (¬ B = 3 → ∃ j, j < k ∧ cr j = b ∧ ch j = lv B) ∧ (¬ C = 3 → ∃ j, j < k ∧ cr j = c ∧ ch j = lv C) ∧ (∀ i j, i < j → j < k → cr i < cr j)
theorem D3.of {a b c : Int64} {A B C : Int32} {cr cr' : Nat → Int64} {ch ch' : Nat → Int32} {k : Nat} (h0 : cr 0 = a ∧ ch 0 = lv A) (h1 : cr 1 = b ∧ ch 1 = lv B) (h2 : cr 2 = c ∧ ch 2 = lv C) (D : DR cr ch 3 cr' ch' k) : D3 a b c A B C cr' ch' k := by
  obtain ⟨d1, d2, d3, d4⟩ := D
  refine ⟨d1, fun j hj => ?_, fun q => ?_, fun q => ?_, fun q => ?_, d4⟩
  · obtain ⟨p, x, hx, e1, e2⟩ := d2 j hj
    refine ⟨p, ?_⟩
    obtain rfl | rfl | rfl : x = 0 ∨ x = 1 ∨ x = 2 := by omega
    · exact Or.inl ⟨e1.trans h0.1, e2.trans h0.2⟩
    · exact Or.inr (Or.inl ⟨e1.trans h1.1, e2.trans h1.2⟩)
    · exact Or.inr (Or.inr ⟨e1.trans h2.1, e2.trans h2.2⟩)
  · obtain ⟨j, hj, e1, e2⟩ := d3 0 (by omega) (by rw [h0.2]; exact (lv_pos A).mpr q)
    exact ⟨j, hj, e1.trans h0.1, e2.trans h0.2⟩
  · obtain ⟨j, hj, e1, e2⟩ := d3 1 (by omega) (by rw [h1.2]; exact (lv_pos B).mpr q)
    exact ⟨j, hj, e1.trans h1.1, e2.trans h1.2⟩
  · obtain ⟨j, hj, e1, e2⟩ := d3 2 (by omega) (by rw [h2.2]; exact (lv_pos C).mpr q)
    exact ⟨j, hj, e1.trans h2.1, e2.trans h2.2⟩
def TT (a b c : Int64) (A B C : Int32) (t : Int64) (O : Int32) : Prop := (t = a ∧ O = A) ∨ (t = b ∧ O = B) ∨ (t = c ∧ O = C)
theorem D3.at {a b c : Int64} {A B C : Int32} {cr : Nat → Int64} {ch : Nat → Int32} {k : Nat} (D : D3 a b c A B C cr ch k) (hab : a.toInt < b.toInt) (hbc : b.toInt < c.toInt) {t : Int64} {O : Int32} (T : TT a b c A B C t O) : (∀ j, j < k → cr j = t → ch j = lv O) ∧ (¬ O = 3 → ∃ j, j < k ∧ cr j = t) ∧ (O = 3 → ∀ j, j < k → ¬ cr j = t) := by
  obtain ⟨-, d2, dA, dB, dC, -⟩ := D
  have n1 : ¬ a = b := fun e => by rw [e] at hab; omega
  have n2 : ¬ b = c := fun e => by rw [e] at hbc; omega
  have n3 : ¬ a = c := fun e => by rw [e] at hab; omega
  have P : ∀ j, j < k → cr j = t → ch j = lv O := fun j hj e => by
    obtain ⟨-, q⟩ := d2 j hj
    rcases T with ⟨rfl, rfl⟩ | ⟨rfl, rfl⟩ | ⟨rfl, rfl⟩ <;> rcases q with ⟨q1, q2⟩ | ⟨q1, q2⟩ | ⟨q1, q2⟩ <;>
      first | exact q2 | exact absurd (e.symm.trans q1) n1 | exact absurd (e.symm.trans q1) n2 | exact absurd (e.symm.trans q1) n3 | exact absurd (q1.symm.trans e) n1 | exact absurd (q1.symm.trans e) n2 | exact absurd (q1.symm.trans e) n3
  refine ⟨P, fun q => ?_, fun q j hj e => ?_⟩
  · rcases T with ⟨rfl, rfl⟩ | ⟨rfl, rfl⟩ | ⟨rfl, rfl⟩
    · obtain ⟨j, hj, e, -⟩ := dA q; exact ⟨j, hj, e⟩
    · obtain ⟨j, hj, e, -⟩ := dB q; exact ⟨j, hj, e⟩
    · obtain ⟨j, hj, e, -⟩ := dC q; exact ⟨j, hj, e⟩
  · have p := (d2 j hj).1
    rw [P j hj e] at p
    exact (lv_pos O).mp p q
theorem D3.del {kc kd : Addr} {a b c : Int64} {A B C : Int32} {cr cr' : Nat → Int64} {ch ch' : Nat → Int32} {k k' : Nat} {wr wr' : Int32} {o' : Bool} (D : D3 a b c A B C cr ch k) (hab : a.toInt < b.toInt) (hbc : b.toInt < c.toInt) {t : Int64} {O : Int32} (T : TT a b c A B C t O) (hdc : ¬ kd = kc) (M : MA kc kd kd t cr ch k wr true cr' ch' k' wr' o') :
    cr' = cr ∧ k' = k ∧ o' = true ∧ ((¬ O = 3 ∧ wr' = wr - lv O ∧ pas cr ch' k = [t]) ∨ (O = 3 ∧ wr' = wr + 1 ∧ pas cr ch' k = [])) := by
  obtain ⟨p1, p2, p3⟩ := D.at hab hbc T
  rcases M with ⟨q, -⟩ | ⟨-, rfl, rfl, rfl, M⟩
  · exact absurd q hdc
  refine ⟨rfl, rfl, rfl, ?_⟩
  rcases M with ⟨-, -, i, hi, ci, hp, rfl, rfl⟩ | ⟨q, -⟩ | ⟨N, rfl, rfl⟩
  · refine Or.inl ⟨fun q => p3 q i hi ci, by rw [p1 i hi ci], ?_⟩
    rw [pas_one hi (by simp [upd]) (fun j hj hne => by simp only [upd, if_neg hne]; exact pos_ne (D.2.1 j hj).1), ci]
  · exact absurd rfl q
  · refine Or.inr ⟨Classical.byContradiction fun q => ?_, rfl, pas_nil fun j hj => pos_ne (D.2.1 j hj).1⟩
    obtain ⟨j, hj, e⟩ := p2 q
    rcases N with q | q | ⟨i, hi, ci, hp⟩
    · cases q
    · exact q j hj e
    · exact hp (D.2.1 i hi).1
theorem D3.none {a b c : Int64} {A B C : Int32} {cr : Nat → Int64} {ch : Nat → Int32} {k : Nat} (D : D3 a b c A B C cr ch k) : k = 0 ↔ (A = 3 ∧ B = 3 ∧ C = 3) := by
  obtain ⟨-, d2, dA, dB, dC, -⟩ := D
  constructor
  · rintro rfl
    refine ⟨Classical.byContradiction fun q => ?_, Classical.byContradiction fun q => ?_, Classical.byContradiction fun q => ?_⟩
    · obtain ⟨j, hj, -⟩ := dA q; omega
    · obtain ⟨j, hj, -⟩ := dB q; omega
    · obtain ⟨j, hj, -⟩ := dC q; omega
  · rintro ⟨rfl, rfl, rfl⟩
    rcases Nat.eq_zero_or_pos k with e | e
    · exact e
    · obtain ⟨p, q⟩ := d2 0 e
      rcases q with ⟨-, q⟩ | ⟨-, q⟩ | ⟨-, q⟩ <;> rw [q] at p <;> exact absurd p (by decide)
theorem D3.last {a b c : Int64} {A B C : Int32} {cr : Nat → Int64} {ch : Nat → Int32} {k : Nat} (D : D3 a b c A B C cr ch k) (hab : a.toInt < b.toInt) (hbc : b.toInt < c.toInt) (hk : 0 < k) : a.toInt ≤ (cr (k - 1)).toInt ∧ (cr (k - 1)).toInt ≤ c.toInt := by
  obtain ⟨-, q⟩ := D.2.1 (k - 1) (by omega)
  rcases q with ⟨q, -⟩ | ⟨q, -⟩ | ⟨q, -⟩ <;> rw [q] <;> omega
theorem told_eq3 (x y z : Int32) : 3 + y + z + x = 3 + x + y + z := by
  apply Int32.toBitVec_inj.mp; simp only [Int32.toBitVec_add]
  generalize x.toBitVec = p; generalize y.toBitVec = q; generalize z.toBitVec = r; generalize (3 : Int32).toBitVec = u
  apply BitVec.eq_of_toNat_eq; simp only [BitVec.toNat_add]; omega
set_option maxRecDepth 65536 in
set_option maxHeartbeats 40000000 in
theorem c_law (l : Launch) (Z : State) (a0 : Array Value) (kc ku kd ka : Addr) (G : Gl Z a0 kc ku kd ka) (base : Int64) (gaps ops mode targ flag : Int32) (h0 : Heap) (n0 : Nat) (hn0 : Z.heap.size ≤ n0) (Z0 : n0 ≤ h0.size) (X0 : Ext Z.heap h0) :
    Ctr l Z Jvm.Pilot.@@N@@.x code maxLocals ret room_1 #[(.long base), (.int gaps), (.int ops), (.int mode), (.int targ), (.int flag)] h0 n0 (fun v h => v = some (.int 1)) := by
  have hw := G.1
  have G' := G
  obtain ⟨-, S1, -, S3, -, k1, k2, k3, k4, k5⟩ := G'
  refine Ctr.of (n1 := n0) #[.val (.long base), .second, .val (.int gaps), .val (.int ops), .val (.int mode), .val (.int targ), .val (.int flag), .unset, .unset, .unset, .unset, .unset, .unset, .unset, .unset, .unset, .unset, .unset, .unset, .unset, .unset, .unset, .unset, .unset, .unset, .unset, .unset, .unset, .unset, .unset, .unset, .unset, .unset, .unset, .unset, .unset, .unset] (plainFor_of_name pn2) (fun m => by first | (simp [entryFrame, mkF, argsToLocals, Value.category, maxLocals]; done) | rfl) ?_
  intro p e s m below meth c C
  have C : Cx p s m meth c Z "com/example/nuthatch/nuthatch/store/JournalTallyDropPassingPinLaw" "law" code 37 (some .boolean) := C
  refine g_lloadN C at_0 (v := base) rfl (q := 1) rfl ?_
  refine g_ldc2Long C at_1 (wd0 hw) (q := 4) rfl ?_
  refine g_lcmp C at_4 (q := 5) rfl ?_
  refine Go.joinR (pc' := 17) (fun av : Int64 => av.toInt ≤ 9223372036854775775) (fun _ => #[.val (.long base), .second, .val (.int gaps), .val (.int ops), .val (.int mode), .val (.int targ), .val (.int flag), .unset, .unset, .unset, .unset, .unset, .unset, .unset, .unset, .unset, .unset, .unset, .unset, .unset, .unset, .unset, .unset, .unset, .unset, .unset, .unset, .unset, .unset, .unset, .unset, .unset, .unset, .unset, .unset, .unset, .unset]) (fun av => [.long av]) ?_ (fun J => ?_)
  ·
    intro a ha
    refine g_lstore C at_17 (L' := #[.val (.long base), .second, .val (.int gaps), .val (.int ops), .val (.int mode), .val (.int targ), .val (.int flag), .val (.long a), .second, .unset, .unset, .unset, .unset, .unset, .unset, .unset, .unset, .unset, .unset, .unset, .unset, .unset, .unset, .unset, .unset, .unset, .unset, .unset, .unset, .unset, .unset, .unset, .unset, .unset, .unset, .unset, .unset]) rfl (q := 19) rfl ?_
    refine g_lload C at_19 (v := a) rfl (q := 21) rfl ?_
    refine g_lconst C at_21 (z := (1 : Int64)) rfl (q := 22) rfl ?_
    refine g_ladd C at_22 (q := 23) rfl ?_
    refine g_iloadN C at_23 (v := gaps) rfl (q := 24) rfl ?_
    refine g_bipush C at_24 (z := (7 : Int32)) rfl (q := 26) rfl ?_
    refine g_iand C at_26 (q := 27) rfl ?_
    refine g_i2l C at_27 (q := 28) rfl ?_
    refine g_ladd C at_28 (q := 29) rfl ?_
    obtain ⟨g1, hg1, e1⟩ := plus7 a gaps (by omega)
    obtain ⟨b, eb⟩ : ∃ b, b = ((a + (1 : Int64)) + ((gaps &&& (7 : Int32)).toInt64)) := ⟨_, rfl⟩
    rw [← eb] at e1 ⊢
    refine g_lstore C at_29 (L' := #[.val (.long base), .second, .val (.int gaps), .val (.int ops), .val (.int mode), .val (.int targ), .val (.int flag), .val (.long a), .second, .val (.long b), .second, .unset, .unset, .unset, .unset, .unset, .unset, .unset, .unset, .unset, .unset, .unset, .unset, .unset, .unset, .unset, .unset, .unset, .unset, .unset, .unset, .unset, .unset, .unset, .unset, .unset, .unset]) rfl (q := 31) rfl ?_
    refine g_lload C at_31 (v := b) rfl (q := 33) rfl ?_
    refine g_lconst C at_33 (z := (1 : Int64)) rfl (q := 34) rfl ?_
    refine g_ladd C at_34 (q := 35) rfl ?_
    refine g_iloadN C at_35 (v := gaps) rfl (q := 36) rfl ?_
    refine g_iconst C at_36 (z := (3 : Int32)) rfl (q := 37) rfl ?_
    refine g_iushr C at_37 (q := 38) rfl ?_
    refine g_bipush C at_38 (z := (7 : Int32)) rfl (q := 40) rfl ?_
    refine g_iand C at_40 (q := 41) rfl ?_
    refine g_i2l C at_41 (q := 42) rfl ?_
    refine g_ladd C at_42 (q := 43) rfl ?_
    obtain ⟨g2, hg2, e2⟩ := plus7 b (XT.ushr gaps 3) (by omega)
    obtain ⟨c', ec⟩ : ∃ c', c' = ((b + (1 : Int64)) + (((XT.ushr gaps (3 : Int32)) &&& (7 : Int32)).toInt64)) := ⟨_, rfl⟩
    rw [← ec] at e2 ⊢
    refine g_lstore C at_43 (L' := #[.val (.long base), .second, .val (.int gaps), .val (.int ops), .val (.int mode), .val (.int targ), .val (.int flag), .val (.long a), .second, .val (.long b), .second, .val (.long c'), .second, .unset, .unset, .unset, .unset, .unset, .unset, .unset, .unset, .unset, .unset, .unset, .unset, .unset, .unset, .unset, .unset, .unset, .unset, .unset, .unset, .unset, .unset, .unset, .unset]) rfl (q := 45) rfl ?_
    refine g_iloadN C at_45 (v := ops) rfl (q := 46) rfl ?_
    refine g_iconst C at_46 (z := (3 : Int32)) rfl (q := 47) rfl ?_
    refine g_iand C at_47 (q := 48) rfl ?_
    have hoA := and3c ops
    obtain ⟨oA, eoA⟩ : ∃ z, z = (ops &&& (3 : Int32)) := ⟨_, rfl⟩
    rw [← eoA] at hoA ⊢
    refine g_istore C at_48 (L' := #[.val (.long base), .second, .val (.int gaps), .val (.int ops), .val (.int mode), .val (.int targ), .val (.int flag), .val (.long a), .second, .val (.long b), .second, .val (.long c'), .second, .val (.int oA), .unset, .unset, .unset, .unset, .unset, .unset, .unset, .unset, .unset, .unset, .unset, .unset, .unset, .unset, .unset, .unset, .unset, .unset, .unset, .unset, .unset, .unset, .unset]) rfl (q := 50) rfl ?_
    refine g_iloadN C at_50 (v := ops) rfl (q := 51) rfl ?_
    refine g_iconst C at_51 (z := (2 : Int32)) rfl (q := 52) rfl ?_
    refine g_iushr C at_52 (q := 53) rfl ?_
    refine g_iconst C at_53 (z := (3 : Int32)) rfl (q := 54) rfl ?_
    refine g_iand C at_54 (q := 55) rfl ?_
    have hoB := and3c (XT.ushr ops (2 : Int32))
    obtain ⟨oB, eoB⟩ : ∃ z, z = ((XT.ushr ops (2 : Int32)) &&& (3 : Int32)) := ⟨_, rfl⟩
    rw [← eoB] at hoB ⊢
    refine g_istore C at_55 (L' := #[.val (.long base), .second, .val (.int gaps), .val (.int ops), .val (.int mode), .val (.int targ), .val (.int flag), .val (.long a), .second, .val (.long b), .second, .val (.long c'), .second, .val (.int oA), .val (.int oB), .unset, .unset, .unset, .unset, .unset, .unset, .unset, .unset, .unset, .unset, .unset, .unset, .unset, .unset, .unset, .unset, .unset, .unset, .unset, .unset, .unset, .unset]) rfl (q := 57) rfl ?_
    refine g_iloadN C at_57 (v := ops) rfl (q := 58) rfl ?_
    refine g_iconst C at_58 (z := (4 : Int32)) rfl (q := 59) rfl ?_
    refine g_iushr C at_59 (q := 60) rfl ?_
    refine g_iconst C at_60 (z := (3 : Int32)) rfl (q := 61) rfl ?_
    refine g_iand C at_61 (q := 62) rfl ?_
    have hoC := and3c (XT.ushr ops (4 : Int32))
    obtain ⟨oC, eoC⟩ : ∃ z, z = ((XT.ushr ops (4 : Int32)) &&& (3 : Int32)) := ⟨_, rfl⟩
    rw [← eoC] at hoC ⊢
    refine g_istore C at_62 (L' := #[.val (.long base), .second, .val (.int gaps), .val (.int ops), .val (.int mode), .val (.int targ), .val (.int flag), .val (.long a), .second, .val (.long b), .second, .val (.long c'), .second, .val (.int oA), .val (.int oB), .val (.int oC), .unset, .unset, .unset, .unset, .unset, .unset, .unset, .unset, .unset, .unset, .unset, .unset, .unset, .unset, .unset, .unset, .unset, .unset, .unset, .unset, .unset]) rfl (q := 64) rfl ?_
    refine g_iload C at_64 (v := mode) rfl (q := 66) rfl ?_
    refine g_ldcInt C at_66 (wd1 hw) (q := 68) rfl ?_
    refine g_iand C at_68 (q := 69) rfl ?_
    refine g_iconst C at_69 (z := (3 : Int32)) rfl (q := 70) rfl ?_
    refine g_irem C at_70 (by decide) (q := 71) rfl ?_
    generalize ((mode &&& (2147483647 : Int32)) % (3 : Int32)) = mm
    refine g_istore C at_71 (L' := #[.val (.long base), .second, .val (.int gaps), .val (.int ops), .val (.int mode), .val (.int targ), .val (.int flag), .val (.long a), .second, .val (.long b), .second, .val (.long c'), .second, .val (.int oA), .val (.int oB), .val (.int oC), .val (.int mm), .unset, .unset, .unset, .unset, .unset, .unset, .unset, .unset, .unset, .unset, .unset, .unset, .unset, .unset, .unset, .unset, .unset, .unset, .unset, .unset]) rfl (q := 73) rfl ?_
    refine g_iload C at_73 (v := targ) rfl (q := 75) rfl ?_
    refine g_ldcInt C at_75 (wd1 hw) (q := 77) rfl ?_
    refine g_iand C at_77 (q := 78) rfl ?_
    refine g_iconst C at_78 (z := (3 : Int32)) rfl (q := 79) rfl ?_
    refine g_irem C at_79 (by decide) (q := 80) rfl ?_
    generalize ((targ &&& (2147483647 : Int32)) % (3 : Int32)) = ts
    have l1 := Int64.le_toInt a
    have hab : a.toInt < b.toInt := by omega
    have hbc : b.toInt < c'.toInt := by omega
    have hca : c'.toInt ≤ a.toInt + 16 := by omega
    refine g_istore C at_80 (L' := #[.val (.long base), .second, .val (.int gaps), .val (.int ops), .val (.int mode), .val (.int targ), .val (.int flag), .val (.long a), .second, .val (.long b), .second, .val (.long c'), .second, .val (.int oA), .val (.int oB), .val (.int oC), .val (.int mm), .val (.int ts), .unset, .unset, .unset, .unset, .unset, .unset, .unset, .unset, .unset, .unset, .unset, .unset, .unset, .unset, .unset, .unset, .unset, .unset, .unset]) rfl (q := 82) rfl ?_
    refine g_iload C at_82 (v := ts) rfl (q := 84) rfl ?_
    refine Go.joinR (α := Int64 × Int32) (pc' := 132) (fun r => TT a b c' oA oB oC r.1 r.2) (fun r => #[.val (.long base), .second, .val (.int gaps), .val (.int ops), .val (.int mode), .val (.int targ), .val (.int flag), .val (.long a), .second, .val (.long b), .second, .val (.long c'), .second, .val (.int oA), .val (.int oB), .val (.int oC), .val (.int mm), .val (.int ts), .val (.long r.1), .second, .val (.int r.2), .unset, .unset, .unset, .unset, .unset, .unset, .unset, .unset, .unset, .unset, .unset, .unset, .unset, .unset, .unset, .unset]) (fun _ => []) ?_ (fun J2 => ?_)
    ·
      rintro ⟨tid, tO⟩ hT
      dsimp only at hT ⊢
      refine g_iload C at_132 (v := flag) rfl (q := 134) rfl ?_
      refine g_iconst C at_134 (z := (1 : Int32)) rfl (q := 135) rfl ?_
      refine g_iand C at_135 (q := 136) rfl ?_
      refine Go.joinR (α := Int32 × Int64) (pc' := 162) (fun r => (r.1 = 1 ∧ r.2 = c' + 1) ∨ (r.1 = 0 ∧ r.2 = a)) (fun r => #[.val (.long base), .second, .val (.int gaps), .val (.int ops), .val (.int mode), .val (.int targ), .val (.int flag), .val (.long a), .second, .val (.long b), .second, .val (.long c'), .second, .val (.int oA), .val (.int oB), .val (.int oC), .val (.int mm), .val (.int ts), .val (.long tid), .second, .val (.int tO), .val (.int r.1), .val (.long r.2), .second, .unset, .unset, .unset, .unset, .unset, .unset, .unset, .unset, .unset, .unset, .unset, .unset, .unset]) (fun _ => []) ?_ (fun J3 => ?_)
      ·
        rintro ⟨up, zz⟩ hU
        dsimp only at hU ⊢
        refine g_iconst C at_162 (z := (3 : Int32)) rfl (q := 163) rfl ?_
        refine g_iload C at_163 (v := oA) rfl (q := 165) rfl ?_
        refine Go.joinR (pc' := 173) (fun v : Int32 => v = tl oA) (fun _ => #[.val (.long base), .second, .val (.int gaps), .val (.int ops), .val (.int mode), .val (.int targ), .val (.int flag), .val (.long a), .second, .val (.long b), .second, .val (.long c'), .second, .val (.int oA), .val (.int oB), .val (.int oC), .val (.int mm), .val (.int ts), .val (.long tid), .second, .val (.int tO), .val (.int up), .val (.long zz), .second, .unset, .unset, .unset, .unset, .unset, .unset, .unset, .unset, .unset, .unset, .unset, .unset, .unset]) (fun v => [.int v, (.int (3 : Int32))]) ?_ (fun JJ => ?_)
        ·
          intro v hv
          subst hv
          refine g_iadd C at_173 (q := 174) rfl ?_
          refine g_iload C at_174 (v := oB) rfl (q := 176) rfl ?_
          refine Go.joinR (pc' := 184) (fun v : Int32 => v = tl oB) (fun _ => #[.val (.long base), .second, .val (.int gaps), .val (.int ops), .val (.int mode), .val (.int targ), .val (.int flag), .val (.long a), .second, .val (.long b), .second, .val (.long c'), .second, .val (.int oA), .val (.int oB), .val (.int oC), .val (.int mm), .val (.int ts), .val (.long tid), .second, .val (.int tO), .val (.int up), .val (.long zz), .second, .unset, .unset, .unset, .unset, .unset, .unset, .unset, .unset, .unset, .unset, .unset, .unset, .unset]) (fun v => [.int v, (.int ((3 : Int32) + (tl oA)))]) ?_ (fun JJ => ?_)
          ·
            intro v hv
            subst hv
            refine g_iadd C at_184 (q := 185) rfl ?_
            refine g_iload C at_185 (v := oC) rfl (q := 187) rfl ?_
            refine Go.joinR (pc' := 195) (fun v : Int32 => v = tl oC) (fun _ => #[.val (.long base), .second, .val (.int gaps), .val (.int ops), .val (.int mode), .val (.int targ), .val (.int flag), .val (.long a), .second, .val (.long b), .second, .val (.long c'), .second, .val (.int oA), .val (.int oB), .val (.int oC), .val (.int mm), .val (.int ts), .val (.long tid), .second, .val (.int tO), .val (.int up), .val (.long zz), .second, .unset, .unset, .unset, .unset, .unset, .unset, .unset, .unset, .unset, .unset, .unset, .unset, .unset]) (fun v => [.int v, (.int (((3 : Int32) + (tl oA)) + (tl oB)))]) ?_ (fun JJ => ?_)
            ·
              intro v hv
              subst hv
              refine g_iadd C at_195 (q := 196) rfl ?_
              refine g_istore C at_196 (L' := #[.val (.long base), .second, .val (.int gaps), .val (.int ops), .val (.int mode), .val (.int targ), .val (.int flag), .val (.long a), .second, .val (.long b), .second, .val (.long c'), .second, .val (.int oA), .val (.int oB), .val (.int oC), .val (.int mm), .val (.int ts), .val (.long tid), .second, .val (.int tO), .val (.int up), .val (.long zz), .second, .val (.int ((((3 : Int32) + (tl oA)) + (tl oB)) + (tl oC))), .unset, .unset, .unset, .unset, .unset, .unset, .unset, .unset, .unset, .unset, .unset, .unset]) rfl (q := 198) rfl ?_
              refine g_iload C at_198 (v := oA) rfl (q := 200) rfl ?_
              refine g_callS C (W := 0) (argsL := [(.int oA)]) (rest := []) at_200 (wd2 hw) (wd3 hw) (wd4 hw) (wd5 hw) (by decide) (Ctr.bk (c_live l Z a0 kc ku kd ka G oA h0 n0) C (wd5 hw) (wd4 hw) (by decide) (by decide)) (by decide) (by decide) rfl (lenOf pd7 rfl) rfl rfl (q := 203) rfl (fun vk hk hQk => ?_)
              obtain ⟨rfl, rfl⟩ := hQk
              refine ⟨[(.int (lv oA))], rfl, ?_⟩
              refine g_iload C at_203 (v := oB) rfl (q := 205) rfl ?_
              refine g_callS C (W := 1) (argsL := [(.int oB)]) (rest := [(.int (lv oA))]) at_205 (wd2 hw) (wd3 hw) (wd4 hw) (wd5 hw) (by decide) (Ctr.bk (c_live l Z a0 kc ku kd ka G oB h0 n0) C (wd5 hw) (wd4 hw) (by decide) (by decide)) (by decide) (by decide) rfl (lenOf pd7 rfl) rfl rfl (q := 208) rfl (fun vk hk hQk => ?_)
              obtain ⟨rfl, rfl⟩ := hQk
              refine ⟨[(.int (lv oB)), (.int (lv oA))], rfl, ?_⟩
              refine g_iadd C at_208 (q := 209) rfl ?_
              refine g_iload C at_209 (v := oC) rfl (q := 211) rfl ?_
              refine g_callS C (W := 1) (argsL := [(.int oC)]) (rest := [(.int ((lv oA) + (lv oB)))]) at_211 (wd2 hw) (wd3 hw) (wd4 hw) (wd5 hw) (by decide) (Ctr.bk (c_live l Z a0 kc ku kd ka G oC h0 n0) C (wd5 hw) (wd4 hw) (by decide) (by decide)) (by decide) (by decide) rfl (lenOf pd7 rfl) rfl rfl (q := 214) rfl (fun vk hk hQk => ?_)
              obtain ⟨rfl, rfl⟩ := hQk
              refine ⟨[(.int (lv oC)), (.int ((lv oA) + (lv oB)))], rfl, ?_⟩
              refine g_iadd C at_214 (q := 215) rfl ?_
              refine g_istore C at_215 (L' := #[.val (.long base), .second, .val (.int gaps), .val (.int ops), .val (.int mode), .val (.int targ), .val (.int flag), .val (.long a), .second, .val (.long b), .second, .val (.long c'), .second, .val (.int oA), .val (.int oB), .val (.int oC), .val (.int mm), .val (.int ts), .val (.long tid), .second, .val (.int tO), .val (.int up), .val (.long zz), .second, .val (.int ((((3 : Int32) + (tl oA)) + (tl oB)) + (tl oC))), .val (.int (((lv oA) + (lv oB)) + (lv oC))), .unset, .unset, .unset, .unset, .unset, .unset, .unset, .unset, .unset, .unset, .unset]) rfl (q := 217) rfl ?_
              refine g_new C at_217 (wd6 hw) (wd7 hw) (wd8 hw) (by decide) (by decide) (q := 220) rfl (fun t h1 q1 E1 A1 D1 => ?_)
              refine g_dup C at_220 rfl (q := 221) rfl ?_
              have F1 : JF Z h1 t .null .null (.int 0) (.int 0) (.int 0) (.int 0) := ⟨A1, D1 (Or.inl (wd17 hw)) (ty := (.array .long)) (by decide), D1 (Or.inl (wd20 hw)) (ty := (.array .int)) (by decide), D1 (Or.inl (wd39 hw)) (ty := .int) (by decide), D1 (Or.inl (wd44 hw)) (ty := .int) (by decide), D1 (Or.inl (wd42 hw)) (ty := .int) (by decide), D1 (Or.inl (wd22 hw)) (ty := .boolean) (by decide)⟩
              refine g_callI C (W := 1) (argsL := []) (rest := [(.ref t)]) (a := t) at_221 rfl (wd9 hw) (wd10 hw) (wd11 hw) (by decide) (Ctr.bk (c_tinit l Z a0 kc ku kd ka G t .null .null h1 n0 (Nat.le_trans Z0 E1.1) (by rw [q1]; exact Z0) A1.lt F1) C (wd11 hw) (wd8 hw) (by decide) (by decide)) (by decide) (by decide) rfl (lenOf pd8 rfl) rfl rfl (q := 224) rfl (fun v2 h2 hQ2 => ?_)
              obtain ⟨rfl, K2, cA, xA, gc, gx, T0⟩ := hQ2
              refine ⟨[(.ref t)], rfl, ?_⟩
              have X2 : Ext Z.heap h2 := Ext.keep (Ext.tr X0 E1) K2 (fun x hx => by cases List.mem_singleton.mp hx; rw [q1]; exact X0.1)
              have Z2 : n0 ≤ h2.size := Nat.le_trans (Nat.le_trans Z0 E1.1) K2.1
              refine g_astore C at_224 rfl (L' := #[.val (.long base), .second, .val (.int gaps), .val (.int ops), .val (.int mode), .val (.int targ), .val (.int flag), .val (.long a), .second, .val (.long b), .second, .val (.long c'), .second, .val (.int oA), .val (.int oB), .val (.int oC), .val (.int mm), .val (.int ts), .val (.long tid), .second, .val (.int tO), .val (.int up), .val (.long zz), .second, .val (.int ((((3 : Int32) + (tl oA)) + (tl oB)) + (tl oC))), .val (.int (((lv oA) + (lv oB)) + (lv oC))), .val (.ref t), .unset, .unset, .unset, .unset, .unset, .unset, .unset, .unset, .unset, .unset]) rfl (q := 226) rfl ?_
              refine g_iload C at_226 (v := mm) rfl (q := 228) rfl ?_
              have J4 : ∀ (h : Heap) (cr : Nat → Int64) (ch : Nat → Int32) (n : Nat) (wr : Int32) (o : Bool), TY Z h n0 t cA xA cr ch n (3 + tl oA + tl oB + tl oC) wr o → Ext Z.heap h → n0 ≤ h.size → ((mm = 0 ∧ o = true ∧ n = 3 ∧ (cr 0 = a ∧ ch 0 = lv oA) ∧ (cr 1 = b ∧ ch 1 = lv oB) ∧ (cr 2 = c' ∧ ch 2 = lv oC) ∧ wr = lv oA + lv oB + lv oC) ∨ (¬ mm = 0 ∧ o = false ∧ n = 3)) → Go p l e room_1 s m #[(.long base), (.int gaps), (.int ops), (.int mode), (.int targ), (.int flag)] below meth c (FinN s below room_1 n0 (fun v h => v = some (.int 1))) n0 h (0 + rm0.cells + rm0.cells + rm0.cells + 1 + rmC.cells + rmCw.cells + rmCw.cells + rmCw.cells) (0 + rm0.slots + rm0.slots + rm0.slots + 6 + rmC.slots + rmCw.slots + rmCw.slots + rmCw.slots) 324 #[.val (.long base), .second, .val (.int gaps), .val (.int ops), .val (.int mode), .val (.int targ), .val (.int flag), .val (.long a), .second, .val (.long b), .second, .val (.long c'), .second, .val (.int oA), .val (.int oB), .val (.int oC), .val (.int mm), .val (.int ts), .val (.long tid), .second, .val (.int tO), .val (.int up), .val (.long zz), .second, .val (.int ((((3 : Int32) + (tl oA)) + (tl oB)) + (tl oC))), .val (.int (((lv oA) + (lv oB)) + (lv oC))), .val (.ref t), .unset, .unset, .unset, .unset, .unset, .unset, .unset, .unset, .unset, .unset] [] := by
                intro h cr ch n wr o T X ZZ hSR
                rcases hSR with ⟨hm, rfl, rfl, c0, c1, c2, ew⟩ | ⟨hm, rfl, rfl⟩
                ·
                  have srt : ∀ i j, i < j → j < 3 → cr i < cr j := fun i j hij hj => by
                    rw [Int64.lt_iff_toInt_lt]
                    obtain ⟨rfl, rfl⟩ | ⟨rfl, rfl⟩ | ⟨rfl, rfl⟩ : (i = 0 ∧ j = 1) ∨ (i = 0 ∧ j = 2) ∨ (i = 1 ∧ j = 2) := by omega
                    · rw [c0.1, c1.1]; exact hab
                    · rw [c0.1, c2.1]; omega
                    · rw [c1.1, c2.1]; exact hbc
                  refine g_aload C at_324 (v := (.ref t)) rfl rfl (q := 326) rfl ?_
                  refine g_callV C (W := 0) (argsL := []) (rest := []) (a := t) at_326 (wd52 hw) (wd53 hw) (wd55 hw) (wd54 hw) (by decide) (nf_of C (wd55 hw)) T.1.1 (Ctr.bk (c_drop l Z a0 kc ku kd ka G t cA xA cr ch 3 (3 + tl oA + tl oB + tl oC) wr true h n0 T (by omega) (fun _ => srt)) C (wd56 hw) (wd8 hw) (by decide) (by decide)) (by decide) (by decide) rfl (lenOf pd8 rfl) rfl rfl (q := 329) rfl (fun v3 h3 hQ3 => ?_)
                  obtain ⟨rfl, K3, hd⟩ := hQ3
                  obtain ⟨dr, dh, k, T3, DRk⟩ : ∃ cr' ch' k, TY Z h3 n0 t cA xA cr' ch' k wr wr true ∧ DR cr ch 3 cr' ch' k := by
                    rcases hd with ⟨q, -⟩ | ⟨-, q⟩
                    · cases q
                    · exact q
                  refine ⟨[], rfl, ?_⟩
                  have D := D3.of c0 c1 c2 DRk
                  have hk3 := D.1
                  have X3 := Ext.keep X K3 (T.ws hn0)
                  have Z3 : n0 ≤ h3.size := Nat.le_trans ZZ K3.1
                  refine g_aload C at_329 (v := (.ref t)) rfl rfl (q := 331) rfl ?_
                  refine g_callV C (W := 0) (argsL := []) (rest := []) (a := t) at_331 (wd57 hw) (wd58 hw) (wd60 hw) (wd59 hw) (by decide) (nf_of C (wd60 hw)) T3.1.1 (Ctr.bk (c_writes l Z a0 kc ku kd ka G t cA xA dr dh k wr wr true h3 n0 T3) C (wd61 hw) (wd8 hw) (by decide) (by decide)) (by decide) (by decide) rfl (lenOf pd9 rfl) rfl rfl (q := 334) rfl (fun vk hk hQk => ?_)
                  obtain ⟨rfl, rfl⟩ := hQk
                  refine ⟨[(.int wr)], rfl, ?_⟩
                  refine g_istore C at_334 (L' := #[.val (.long base), .second, .val (.int gaps), .val (.int ops), .val (.int mode), .val (.int targ), .val (.int flag), .val (.long a), .second, .val (.long b), .second, .val (.long c'), .second, .val (.int oA), .val (.int oB), .val (.int oC), .val (.int mm), .val (.int ts), .val (.long tid), .second, .val (.int tO), .val (.int up), .val (.long zz), .second, .val (.int ((((3 : Int32) + (tl oA)) + (tl oB)) + (tl oC))), .val (.int (((lv oA) + (lv oB)) + (lv oC))), .val (.ref t), .val (.int wr), .unset, .unset, .unset, .unset, .unset, .unset, .unset, .unset, .unset]) rfl (q := 336) rfl ?_
                  refine g_aload C at_336 (v := (.ref t)) rfl rfl (q := 338) rfl ?_
                  refine g_callV C (W := 0) (argsL := []) (rest := []) (a := t) at_338 (wd62 hw) (wd63 hw) (wd65 hw) (wd64 hw) (by decide) (nf_of C (wd65 hw)) T3.1.1 (Ctr.bk (c_passing l Z a0 kc ku kd ka G t cA xA dr dh k wr wr true h3 n0 T3 (by omega) Z3) C (wd66 hw) (wd8 hw) (by decide) (by decide)) (by decide) (by decide) rfl (lenOf pd10 rfl) rfl rfl (q := 341) rfl (fun v4 h4 hQ4 => ?_)
                  obtain ⟨r1, rfl, gr1, K4, R1⟩ := hQ4
                  refine ⟨[(.ref r1)], rfl, ?_⟩
                  have e4 : pas dr dh (if true = true then k else 0) = [] := pas_nil fun j hj => pos_ne (D.2.1 j hj).1
                  rw [e4] at R1
                  have T4 := T3.keep K4 (by simp) (by simp) (by simp)
                  have X4 := Ext.keep X3 K4 (by simp)
                  have Z4 : n0 ≤ h4.size := Nat.le_trans Z3 K4.1
                  have tb : a.toInt ≤ tid.toInt ∧ tid.toInt ≤ c'.toInt := by rcases hT with ⟨q, -⟩ | ⟨q, -⟩ | ⟨q, -⟩ <;> rw [q] <;> omega
                  refine g_astore C at_341 rfl (L' := #[.val (.long base), .second, .val (.int gaps), .val (.int ops), .val (.int mode), .val (.int targ), .val (.int flag), .val (.long a), .second, .val (.long b), .second, .val (.long c'), .second, .val (.int oA), .val (.int oB), .val (.int oC), .val (.int mm), .val (.int ts), .val (.long tid), .second, .val (.int tO), .val (.int up), .val (.long zz), .second, .val (.int ((((3 : Int32) + (tl oA)) + (tl oB)) + (tl oC))), .val (.int (((lv oA) + (lv oB)) + (lv oC))), .val (.ref t), .val (.int wr), .val (.ref r1), .unset, .unset, .unset, .unset, .unset, .unset, .unset, .unset]) rfl (q := 343) rfl ?_
                  refine g_aload C at_343 (v := (.ref t)) rfl rfl (q := 345) rfl ?_
                  refine g_gets C at_345 (host := "") (Or.inl (wd79 hw)) Via.refl (S3.ext X4) (q := 348) rfl ?_
                  refine g_lload C at_348 (v := tid) rfl (q := 350) rfl ?_
                  refine g_callV C (W := 0) (argsL := [(.ref kd), (.long tid)]) (rest := []) (a := t) at_350 (wd29 hw) (wd30 hw) (wd32 hw) (wd31 hw) (by decide) (nf_of C (wd32 hw)) T4.1.1 (Ctr.bk (c_add l Z a0 kc ku kd ka G t cA xA dr dh k wr wr true h4 n0 T4 kd tid X4 (by omega) (fun _ => D.2.2.2.2.2) (fun _ hp _ => by have := D.last hab hbc hp; omega)) C (wd33 hw) (wd8 hw) (by decide) (by decide)) (by decide) (by decide) rfl (lenOf pd5 rfl) rfl rfl (q := 353) rfl (fun v5 h5 hQ5 => ?_)
                  obtain ⟨rfl, K5, cr5, ch5, n5, wr5, o5, T5, M5⟩ := hQ5
                  refine ⟨[], rfl, ?_⟩
                  obtain ⟨rfl, rfl, rfl, F5⟩ := D.del hab hbc hT k2 M5
                  have X5 := Ext.keep X4 K5 (T4.ws hn0)
                  have Z5 : n0 ≤ h5.size := Nat.le_trans Z4 K5.1
                  have ll := T4.lts
                  have R15 := R1.keep K5 (fun hm => by
                    simp only [List.mem_cons, List.not_mem_nil, or_false] at hm
                    obtain ⟨u1, u2, u3⟩ := T3.lts
                    rcases hm with q | q | q
                    · rw [q] at gr1; exact absurd gr1 (Nat.not_le.mpr u1)
                    · rw [q] at gr1; exact absurd gr1 (Nat.not_le.mpr u2)
                    · rw [q] at gr1; exact absurd gr1 (Nat.not_le.mpr u3))
                  refine g_aload C at_353 (v := (.ref t)) rfl rfl (q := 355) rfl ?_
                  refine g_callV C (W := 0) (argsL := []) (rest := []) (a := t) at_355 (wd62 hw) (wd63 hw) (wd65 hw) (wd64 hw) (by decide) (nf_of C (wd65 hw)) T5.1.1 (Ctr.bk (c_passing l Z a0 kc ku kd ka G t cA xA cr5 ch5 n5 (wr + 1) wr5 true h5 n0 T5 (by omega) Z5) C (wd66 hw) (wd8 hw) (by decide) (by decide)) (by decide) (by decide) rfl (lenOf pd10 rfl) rfl rfl (q := 358) rfl (fun v6 h6 hQ6 => ?_)
                  obtain ⟨r2, rfl, gr2, K6, R2⟩ := hQ6
                  refine ⟨[(.ref r2)], rfl, ?_⟩
                  have T6 := T5.keep K6 (by simp) (by simp) (by simp)
                  have X6 := Ext.keep X5 K6 (by simp)
                  have Z6 : n0 ≤ h6.size := Nat.le_trans Z5 K6.1
                  have R16 := R15.keep K6 (by simp)
                  have zb : zz.toInt ≤ c'.toInt + 1 ∧ a.toInt ≤ zz.toInt := by
                    rcases hU with ⟨-, q⟩ | ⟨-, q⟩
                    · rw [q, Int64.toInt_add]
                      have e1 : (1 : Int64).toInt = 1 := rfl
                      rw [e1, Int.bmod_def]; omega
                    · rw [q]; omega
                  refine g_astore C at_358 rfl (L' := #[.val (.long base), .second, .val (.int gaps), .val (.int ops), .val (.int mode), .val (.int targ), .val (.int flag), .val (.long a), .second, .val (.long b), .second, .val (.long c'), .second, .val (.int oA), .val (.int oB), .val (.int oC), .val (.int mm), .val (.int ts), .val (.long tid), .second, .val (.int tO), .val (.int up), .val (.long zz), .second, .val (.int ((((3 : Int32) + (tl oA)) + (tl oB)) + (tl oC))), .val (.int (((lv oA) + (lv oB)) + (lv oC))), .val (.ref t), .val (.int wr), .val (.ref r1), .val (.ref r2), .unset, .unset, .unset, .unset, .unset, .unset, .unset]) rfl (q := 360) rfl ?_
                  refine g_aload C at_360 (v := (.ref t)) rfl rfl (q := 362) rfl ?_
                  refine g_gets C at_362 (host := "") (Or.inl (wd26 hw)) Via.refl (S1.ext X6) (q := 365) rfl ?_
                  refine g_lload C at_365 (v := zz) rfl (q := 367) rfl ?_
                  refine g_callV C (W := 0) (argsL := [(.ref kc), (.long zz)]) (rest := []) (a := t) at_367 (wd29 hw) (wd30 hw) (wd32 hw) (wd31 hw) (by decide) (nf_of C (wd32 hw)) T6.1.1 (Ctr.bk (c_add l Z a0 kc ku kd ka G t cA xA cr5 ch5 n5 (wr + 1) wr5 true h6 n0 T6 kc zz X6 (by omega) (fun _ => D.2.2.2.2.2) (fun _ hp _ => by have := D.last hab hbc hp; omega)) C (wd33 hw) (wd8 hw) (by decide) (by decide)) (by decide) (by decide) rfl (lenOf pd5 rfl) rfl rfl (q := 370) rfl (fun v7 h7 hQ7 => ?_)
                  obtain ⟨rfl, K7, cr7, ch7, n7, wr7, o7, T7, M7⟩ := hQ7
                  refine ⟨[], rfl, ?_⟩
                  obtain ⟨ew7, eo7⟩ : wr7 = wr5 + 1 ∧ o7 = (true && (n5 == 0 || decide (cr5 (n5 - 1) < zz))) := by
                    rcases M7 with ⟨-, -, -, -, e, e'⟩ | ⟨q, -⟩
                    · exact ⟨e, e'⟩
                    · exact absurd rfl q
                  have nin : ∀ y, y ∈ [t, cA, xA] → y < h4.size := fun y hy => by
                    simp only [List.mem_cons, List.not_mem_nil, or_false] at hy
                    rcases hy with rfl | rfl | rfl
                    · exact ll.1
                    · exact ll.2.1
                    · exact ll.2.2
                  have R17 := R16.keep K7 (fun hm => by
                    obtain ⟨u1, u2, u3⟩ := T3.lts
                    simp only [List.mem_cons, List.not_mem_nil, or_false] at hm
                    rcases hm with q | q | q
                    · rw [q] at gr1; exact absurd gr1 (Nat.not_le.mpr u1)
                    · rw [q] at gr1; exact absurd gr1 (Nat.not_le.mpr u2)
                    · rw [q] at gr1; exact absurd gr1 (Nat.not_le.mpr u3))
                  have R27 := R2.keep K7 (fun hm => absurd (Nat.le_trans K5.1 gr2) (Nat.not_le.mpr (nin _ hm)))
                  have so : (up = 1 ∨ n5 = 0) ↔ o7 = true := by
                    rw [eo7]
                    by_cases hz : n5 = 0
                    · simp [hz]
                    · have lb := D.last hab hbc (Nat.pos_of_ne_zero hz)
                      rcases hU with ⟨q1, q2⟩ | ⟨q1, q2⟩
                      · have : cr5 (n5 - 1) < zz := by
                          rw [Int64.lt_iff_toInt_lt, q2, Int64.toInt_add]
                          have e1 : (1 : Int64).toInt = 1 := rfl
                          rw [e1, Int.bmod_def]; omega
                        simp [q1, this]
                      · have : ¬ cr5 (n5 - 1) < zz := by rw [Int64.lt_iff_toInt_lt, q2]; omega
                        have u1 : ¬ up = 1 := by rw [q1]; decide
                        simp [u1, hz, this]
                  refine g_aload C at_370 (v := (.ref t)) rfl rfl (q := 372) rfl ?_
                  refine g_callV C (W := 0) (argsL := []) (rest := []) (a := t) at_372 (wd57 hw) (wd58 hw) (wd60 hw) (wd59 hw) (by decide) (nf_of C (wd60 hw)) T7.1.1 (Ctr.bk (c_writes l Z a0 kc ku kd ka G t cA xA cr7 ch7 n7 (wr + 1 + 1) wr7 o7 h7 n0 T7) C (wd61 hw) (wd8 hw) (by decide) (by decide)) (by decide) (by decide) rfl (lenOf pd9 rfl) rfl rfl (q := 375) rfl (fun vk hk hQk => ?_)
                  obtain ⟨rfl, rfl⟩ := hQk
                  refine ⟨[(.int (if o7 then wr7 else (wr + 1 + 1)))], rfl, ?_⟩
                  refine g_istore C at_375 (L' := #[.val (.long base), .second, .val (.int gaps), .val (.int ops), .val (.int mode), .val (.int targ), .val (.int flag), .val (.long a), .second, .val (.long b), .second, .val (.long c'), .second, .val (.int oA), .val (.int oB), .val (.int oC), .val (.int mm), .val (.int ts), .val (.long tid), .second, .val (.int tO), .val (.int up), .val (.long zz), .second, .val (.int ((((3 : Int32) + (tl oA)) + (tl oB)) + (tl oC))), .val (.int (((lv oA) + (lv oB)) + (lv oC))), .val (.ref t), .val (.int wr), .val (.ref r1), .val (.ref r2), .val (.int (if o7 then wr7 else (wr + 1 + 1))), .unset, .unset, .unset, .unset, .unset, .unset]) rfl (q := 377) rfl ?_
                  refine g_iload C at_377 (v := mm) rfl (q := 379) rfl ?_
                  refine g_if_eq C at_379 (q' := 416) (q := 382) (by decide) (by decide) rfl (fun hy => ?_) (fun hn => absurd hm hn)
                  refine g_iload C at_416 (v := tO) rfl (q := 418) rfl ?_
                  refine g_iconst C at_418 (z := (3 : Int32)) rfl (q := 419) rfl ?_
                  rcases F5 with ⟨ko, e5, p5⟩ | ⟨ko, e5, p5⟩
                  ·
                    have p6 : pas cr5 ch5 (if true = true then n5 else 0) = [tid] := p5
                    rw [p6] at R27
                    refine g_icmp_eq C at_419 (q' := 426) (q := 422) (by decide) (by decide) rfl (fun hy => absurd hy ko) (fun hn => ?_)
                    refine g_iconst C at_422 (z := (1 : Int32)) rfl (q := 423) rfl ?_
                    refine g_goto C at_423 (q := 427) (by decide) (by decide) ?_
                    refine g_istore C at_427 (L' := #[.val (.long base), .second, .val (.int gaps), .val (.int ops), .val (.int mode), .val (.int targ), .val (.int flag), .val (.long a), .second, .val (.long b), .second, .val (.long c'), .second, .val (.int oA), .val (.int oB), .val (.int oC), .val (.int mm), .val (.int ts), .val (.long tid), .second, .val (.int tO), .val (.int up), .val (.long zz), .second, .val (.int ((((3 : Int32) + (tl oA)) + (tl oB)) + (tl oC))), .val (.int (((lv oA) + (lv oB)) + (lv oC))), .val (.ref t), .val (.int wr), .val (.ref r1), .val (.ref r2), .val (.int (if o7 then wr7 else (wr + 1 + 1))), .val (.int (1 : Int32)), .unset, .unset, .unset, .unset, .unset]) rfl (q := 429) rfl ?_
                    refine g_iload C at_429 (v := (1 : Int32)) rfl (q := 431) rfl ?_
                    refine g_if_eq C at_431 (q' := 445) (q := 434) (by decide) (by decide) rfl (fun hy => absurd hy (by decide)) (fun hn => ?_)
                    refine g_iload C at_434 (v := (((lv oA) + (lv oB)) + (lv oC))) rfl (q := 436) rfl ?_
                    refine g_iload C at_436 (v := tO) rfl (q := 438) rfl ?_
                    refine g_callS C (W := 1) (argsL := [(.int tO)]) (rest := [(.int (((lv oA) + (lv oB)) + (lv oC)))]) at_438 (wd2 hw) (wd3 hw) (wd4 hw) (wd5 hw) (by decide) (Ctr.bk (c_live l Z a0 kc ku kd ka G tO h7 n0) C (wd5 hw) (wd4 hw) (by decide) (by decide)) (by decide) (by decide) rfl (lenOf pd7 rfl) rfl rfl (q := 441) rfl (fun vk hk hQk => ?_)
                    obtain ⟨rfl, rfl⟩ := hQk
                    refine ⟨[(.int (lv tO)), (.int (((lv oA) + (lv oB)) + (lv oC)))], rfl, ?_⟩
                    refine g_isub C at_441 (q := 442) rfl ?_
                    refine g_goto C at_442 (q := 449) (by decide) (by decide) ?_
                    refine g_istore C at_449 (L' := #[.val (.long base), .second, .val (.int gaps), .val (.int ops), .val (.int mode), .val (.int targ), .val (.int flag), .val (.long a), .second, .val (.long b), .second, .val (.long c'), .second, .val (.int oA), .val (.int oB), .val (.int oC), .val (.int mm), .val (.int ts), .val (.long tid), .second, .val (.int tO), .val (.int up), .val (.long zz), .second, .val (.int ((((3 : Int32) + (tl oA)) + (tl oB)) + (tl oC))), .val (.int (((lv oA) + (lv oB)) + (lv oC))), .val (.ref t), .val (.int wr), .val (.ref r1), .val (.ref r2), .val (.int (if o7 then wr7 else (wr + 1 + 1))), .val (.int (1 : Int32)), .val (.int ((((lv oA) + (lv oB)) + (lv oC)) - (lv tO))), .unset, .unset, .unset, .unset]) rfl (q := 451) rfl ?_
                    refine Go.joinR (pc' := 474) (fun u : Int32 => (u = 0 ∧ n5 = 0) ∨ (u = 1 ∧ ¬ n5 = 0)) (fun _ => #[.val (.long base), .second, .val (.int gaps), .val (.int ops), .val (.int mode), .val (.int targ), .val (.int flag), .val (.long a), .second, .val (.long b), .second, .val (.long c'), .second, .val (.int oA), .val (.int oB), .val (.int oC), .val (.int mm), .val (.int ts), .val (.long tid), .second, .val (.int tO), .val (.int up), .val (.long zz), .second, .val (.int ((((3 : Int32) + (tl oA)) + (tl oB)) + (tl oC))), .val (.int (((lv oA) + (lv oB)) + (lv oC))), .val (.ref t), .val (.int wr), .val (.ref r1), .val (.ref r2), .val (.int (if o7 then wr7 else (wr + 1 + 1))), .val (.int (1 : Int32)), .val (.int ((((lv oA) + (lv oB)) + (lv oC)) - (lv tO))), .unset, .unset, .unset, .unset]) (fun u => [.int u]) ?_ (fun J5 => ?_)
                    ·
                      intro u hu
                      refine g_istore C at_474 (L' := #[.val (.long base), .second, .val (.int gaps), .val (.int ops), .val (.int mode), .val (.int targ), .val (.int flag), .val (.long a), .second, .val (.long b), .second, .val (.long c'), .second, .val (.int oA), .val (.int oB), .val (.int oC), .val (.int mm), .val (.int ts), .val (.long tid), .second, .val (.int tO), .val (.int up), .val (.long zz), .second, .val (.int ((((3 : Int32) + (tl oA)) + (tl oB)) + (tl oC))), .val (.int (((lv oA) + (lv oB)) + (lv oC))), .val (.ref t), .val (.int wr), .val (.ref r1), .val (.ref r2), .val (.int (if o7 then wr7 else (wr + 1 + 1))), .val (.int (1 : Int32)), .val (.int ((((lv oA) + (lv oB)) + (lv oC)) - (lv tO))), .val (.int u), .unset, .unset, .unset]) rfl (q := 476) rfl ?_
                      refine g_iload C at_476 (v := up) rfl (q := 478) rfl ?_
                      refine Go.joinR (pc' := 491) (fun u2 : Int32 => u2 = (if o7 then 1 else 0)) (fun _ => #[.val (.long base), .second, .val (.int gaps), .val (.int ops), .val (.int mode), .val (.int targ), .val (.int flag), .val (.long a), .second, .val (.long b), .second, .val (.long c'), .second, .val (.int oA), .val (.int oB), .val (.int oC), .val (.int mm), .val (.int ts), .val (.long tid), .second, .val (.int tO), .val (.int up), .val (.long zz), .second, .val (.int ((((3 : Int32) + (tl oA)) + (tl oB)) + (tl oC))), .val (.int (((lv oA) + (lv oB)) + (lv oC))), .val (.ref t), .val (.int wr), .val (.ref r1), .val (.ref r2), .val (.int (if o7 then wr7 else (wr + 1 + 1))), .val (.int (1 : Int32)), .val (.int ((((lv oA) + (lv oB)) + (lv oC)) - (lv tO))), .val (.int u), .unset, .unset, .unset]) (fun u2 => [.int u2]) ?_ (fun J6 => ?_)
                      ·
                        intro u2 hu2
                        subst hu2
                        refine g_istore C at_491 (L' := #[.val (.long base), .second, .val (.int gaps), .val (.int ops), .val (.int mode), .val (.int targ), .val (.int flag), .val (.long a), .second, .val (.long b), .second, .val (.long c'), .second, .val (.int oA), .val (.int oB), .val (.int oC), .val (.int mm), .val (.int ts), .val (.long tid), .second, .val (.int tO), .val (.int up), .val (.long zz), .second, .val (.int ((((3 : Int32) + (tl oA)) + (tl oB)) + (tl oC))), .val (.int (((lv oA) + (lv oB)) + (lv oC))), .val (.ref t), .val (.int wr), .val (.ref r1), .val (.ref r2), .val (.int (if o7 then wr7 else (wr + 1 + 1))), .val (.int (1 : Int32)), .val (.int ((((lv oA) + (lv oB)) + (lv oC)) - (lv tO))), .val (.int u), .val (.int (if o7 then 1 else 0)), .unset, .unset]) rfl (q := 493) rfl ?_
                        refine g_iload C at_493 (v := (if o7 then 1 else 0)) rfl (q := 495) rfl ?_
                        refine Go.joinR (pc' := 509) (fun ex : Int32 => ex = (if o7 then wr7 else (wr + 1 + 1))) (fun _ => #[.val (.long base), .second, .val (.int gaps), .val (.int ops), .val (.int mode), .val (.int targ), .val (.int flag), .val (.long a), .second, .val (.long b), .second, .val (.long c'), .second, .val (.int oA), .val (.int oB), .val (.int oC), .val (.int mm), .val (.int ts), .val (.long tid), .second, .val (.int tO), .val (.int up), .val (.long zz), .second, .val (.int ((((3 : Int32) + (tl oA)) + (tl oB)) + (tl oC))), .val (.int (((lv oA) + (lv oB)) + (lv oC))), .val (.ref t), .val (.int wr), .val (.ref r1), .val (.ref r2), .val (.int (if o7 then wr7 else (wr + 1 + 1))), .val (.int (1 : Int32)), .val (.int ((((lv oA) + (lv oB)) + (lv oC)) - (lv tO))), .val (.int u), .val (.int (if o7 then 1 else 0)), .unset, .unset]) (fun ex => [.int ex]) ?_ (fun J7 => ?_)
                        ·
                          intro ex hex
                          subst hex
                          refine g_istore C at_509 (L' := #[.val (.long base), .second, .val (.int gaps), .val (.int ops), .val (.int mode), .val (.int targ), .val (.int flag), .val (.long a), .second, .val (.long b), .second, .val (.long c'), .second, .val (.int oA), .val (.int oB), .val (.int oC), .val (.int mm), .val (.int ts), .val (.long tid), .second, .val (.int tO), .val (.int up), .val (.long zz), .second, .val (.int ((((3 : Int32) + (tl oA)) + (tl oB)) + (tl oC))), .val (.int (((lv oA) + (lv oB)) + (lv oC))), .val (.ref t), .val (.int wr), .val (.ref r1), .val (.ref r2), .val (.int (if o7 then wr7 else (wr + 1 + 1))), .val (.int (1 : Int32)), .val (.int ((((lv oA) + (lv oB)) + (lv oC)) - (lv tO))), .val (.int u), .val (.int (if o7 then 1 else 0)), .val (.int (if o7 then wr7 else (wr + 1 + 1))), .unset]) rfl (q := 511) rfl ?_
                          refine g_iload C at_511 (v := (1 : Int32)) rfl (q := 513) rfl ?_
                          refine g_if_eq C at_513 (q' := 541) (q := 516) (by decide) (by decide) rfl (fun hy => absurd hy (by decide)) (fun hn => ?_)
                          refine g_aload C at_516 (v := (.ref r2)) rfl rfl (q := 518) rfl ?_
                          refine g_alen C at_518 R27 (z := (1 : Int32)) rfl (q := 519) rfl ?_
                          refine g_iconst C at_519 (z := (1 : Int32)) rfl (q := 520) rfl ?_
                          refine g_icmp_ne C at_520 (q' := 537) (q := 523) (by decide) (by decide) rfl (fun hy => absurd rfl hy) (fun hn => ?_)
                          refine g_aload C at_523 (v := (.ref r2)) rfl rfl (q := 525) rfl ?_
                          refine g_iconst C at_525 (z := (0 : Int32)) rfl (q := 526) rfl ?_
                          refine g_laload C at_526 (i := 0) R27 (Nat.zero_lt_succ _) rfl rfl (q := 527) rfl ?_
                          refine g_lload C at_527 (v := tid) rfl (q := 529) rfl ?_
                          refine g_lcmp C at_529 (q := 530) rfl ?_
                          refine g_if_ne C at_530 (q' := 537) (q := 533) (by decide) (by decide) rfl (fun hy => absurd ((cmpL_eq _ _).mpr rfl) hy) (fun hn => ?_)
                          refine g_iconst C at_533 (z := (1 : Int32)) rfl (q := 534) rfl ?_
                          refine g_goto C at_534 (q := 552) (by decide) (by decide) ?_
                          refine g_istore C at_552 (L' := #[.val (.long base), .second, .val (.int gaps), .val (.int ops), .val (.int mode), .val (.int targ), .val (.int flag), .val (.long a), .second, .val (.long b), .second, .val (.long c'), .second, .val (.int oA), .val (.int oB), .val (.int oC), .val (.int mm), .val (.int ts), .val (.long tid), .second, .val (.int tO), .val (.int up), .val (.long zz), .second, .val (.int ((((3 : Int32) + (tl oA)) + (tl oB)) + (tl oC))), .val (.int (((lv oA) + (lv oB)) + (lv oC))), .val (.ref t), .val (.int wr), .val (.ref r1), .val (.ref r2), .val (.int (if o7 then wr7 else (wr + 1 + 1))), .val (.int (1 : Int32)), .val (.int ((((lv oA) + (lv oB)) + (lv oC)) - (lv tO))), .val (.int u), .val (.int (if o7 then 1 else 0)), .val (.int (if o7 then wr7 else (wr + 1 + 1))), .val (.int (1 : Int32))]) rfl (q := 554) rfl ?_
                          refine g_iload C at_554 (v := wr) rfl (q := 556) rfl ?_
                          refine g_iload C at_556 (v := (((lv oA) + (lv oB)) + (lv oC))) rfl (q := 558) rfl ?_
                          refine g_icmp_ne C at_558 (q' := 583) (q := 561) (by decide) (by decide) rfl (fun hy => absurd ew hy) (fun hn => ?_)
                          refine g_aload C at_561 (v := (.ref r1)) rfl rfl (q := 563) rfl ?_
                          refine g_alen C at_563 R17 (z := (0 : Int32)) rfl (q := 564) rfl ?_
                          refine g_if_ne C at_564 (q' := 583) (q := 567) (by decide) (by decide) rfl (fun hy => absurd rfl hy) (fun hn => ?_)
                          refine g_iload C at_567 (v := (1 : Int32)) rfl (q := 569) rfl ?_
                          refine g_if_eq C at_569 (q' := 583) (q := 572) (by decide) (by decide) rfl (fun hy => absurd hy (by decide)) (fun hn => ?_)
                          refine g_iload C at_572 (v := (if o7 then wr7 else (wr + 1 + 1))) rfl (q := 574) rfl ?_
                          refine g_iload C at_574 (v := (if o7 then wr7 else (wr + 1 + 1))) rfl (q := 576) rfl ?_
                          refine g_icmp_ne C at_576 (q' := 583) (q := 579) (by decide) (by decide) rfl (fun hy => absurd rfl hy) (fun hn => ?_)
                          refine g_iconst C at_579 (z := (1 : Int32)) rfl (q := 580) rfl ?_
                          refine g_goto C at_580 (q := 584) (by decide) (by decide) ?_
                          refine g_nreturn C at_584 (by simp) (z := 1) rfl (Nat.le_refl _) (by decide) (by decide) rfl
                        ·
                          refine g_if_eq C at_495 (q' := 505) (q := 498) (by decide) (by decide) rfl (fun hz => ?_) (fun hnz => ?_)
                          ·
                            refine g_iload C at_505 (v := (((lv oA) + (lv oB)) + (lv oC))) rfl (q := 507) rfl ?_
                            refine g_iconst C at_507 (z := (2 : Int32)) rfl (q := 508) rfl ?_
                            refine g_iadd C at_508 (q := 509) rfl ?_
                            exact J7 _ (by rw [(bool_z o7).mp hz, ← ew]; show wr + 2 = wr + 1 + 1; rw [Int32.add_assoc]; rfl)
                          ·
                            refine g_iload C at_498 (v := ((((lv oA) + (lv oB)) + (lv oC)) - (lv tO))) rfl (q := 500) rfl ?_
                            refine g_iconst C at_500 (z := (1 : Int32)) rfl (q := 501) rfl ?_
                            refine g_iadd C at_501 (q := 502) rfl ?_
                            refine g_goto C at_502 (q := 509) (by decide) (by decide) ?_
                            exact J7 _ (by rw [show o7 = true from by cases o7; exact absurd rfl hnz; rfl]; show _ = wr7; rw [ew7, e5, ← ew])
                      ·
                        refine g_if_ne C at_478 (q' := 486) (q := 481) (by decide) (by decide) rfl (fun hz => ?_) (fun hnz => ?_)
                        ·
                          refine g_iconst C at_486 (z := (1 : Int32)) rfl (q := 487) rfl ?_
                          refine g_goto C at_487 (q := 491) (by decide) (by decide) ?_
                          exact J6 _ (by rw [so.mp (Or.inl (by rcases hU with ⟨q, -⟩ | ⟨q, -⟩; exact q; exact absurd q hz))]; rfl)
                        ·
                          refine g_iload C at_481 (v := u) rfl (q := 483) rfl ?_
                          refine g_if_ne C at_483 (q' := 490) (q := 486) (by decide) (by decide) rfl (fun hk1 => ?_) (fun hk0 => ?_)
                          ·
                            refine g_iconst C at_490 (z := (0 : Int32)) rfl (q := 491) rfl ?_
                            exact J6 _ (by
                              have : ¬ o7 = true := fun q => by
                                rcases so.mpr q with q | q
                                · rw [hnz] at q; exact absurd q (by decide)
                                · rcases hu with ⟨e, -⟩ | ⟨-, e⟩
                                  · exact hk1 e
                                  · exact e q
                              rw [if_neg this])
                          ·
                            refine g_iconst C at_486 (z := (1 : Int32)) rfl (q := 487) rfl ?_
                            refine g_goto C at_487 (q := 491) (by decide) (by decide) ?_
                            exact J6 _ (by
                              have : o7 = true := so.mp (Or.inr (by
                                rcases hu with ⟨-, e⟩ | ⟨e, -⟩
                                · exact e
                                · rw [hk0] at e; exact absurd e (by decide)))
                              rw [if_pos this])
                    ·
                      refine g_iload C at_451 (v := oA) rfl (q := 453) rfl ?_
                      refine g_iconst C at_453 (z := (3 : Int32)) rfl (q := 454) rfl ?_
                      refine g_icmp_ne C at_454 (q' := 469) (q := 457) (by decide) (by decide) rfl (fun nA => ?_) (fun eA => ?_)
                      ·
                        refine g_iconst C at_469 (z := (1 : Int32)) rfl (q := 470) rfl ?_
                        refine g_goto C at_470 (q := 474) (by decide) (by decide) ?_
                        exact J5 _ (Or.inr ⟨rfl, fun q => nA (D.none.mp q).1⟩)
                      ·
                        refine g_iload C at_457 (v := oB) rfl (q := 459) rfl ?_
                        refine g_iconst C at_459 (z := (3 : Int32)) rfl (q := 460) rfl ?_
                        refine g_icmp_ne C at_460 (q' := 469) (q := 463) (by decide) (by decide) rfl (fun nB => ?_) (fun eB => ?_)
                        ·
                          refine g_iconst C at_469 (z := (1 : Int32)) rfl (q := 470) rfl ?_
                          refine g_goto C at_470 (q := 474) (by decide) (by decide) ?_
                          exact J5 _ (Or.inr ⟨rfl, fun q => nB (D.none.mp q).2.1⟩)
                        ·
                          refine g_iload C at_463 (v := oC) rfl (q := 465) rfl ?_
                          refine g_iconst C at_465 (z := (3 : Int32)) rfl (q := 466) rfl ?_
                          refine g_icmp_eq C at_466 (q' := 473) (q := 469) (by decide) (by decide) rfl (fun eC => ?_) (fun nC => ?_)
                          ·
                            refine g_iconst C at_473 (z := (0 : Int32)) rfl (q := 474) rfl ?_
                            exact J5 _ (Or.inl ⟨rfl, D.none.mpr ⟨eA, eB, eC⟩⟩)
                          ·
                            refine g_iconst C at_469 (z := (1 : Int32)) rfl (q := 470) rfl ?_
                            refine g_goto C at_470 (q := 474) (by decide) (by decide) ?_
                            exact J5 _ (Or.inr ⟨rfl, fun q => nC (D.none.mp q).2.2⟩)
                  ·
                    have p6 : pas cr5 ch5 (if true = true then n5 else 0) = [] := p5
                    rw [p6] at R27
                    refine g_icmp_eq C at_419 (q' := 426) (q := 422) (by decide) (by decide) rfl (fun hy => ?_) (fun hn => absurd ko hn)
                    refine g_iconst C at_426 (z := (0 : Int32)) rfl (q := 427) rfl ?_
                    refine g_istore C at_427 (L' := #[.val (.long base), .second, .val (.int gaps), .val (.int ops), .val (.int mode), .val (.int targ), .val (.int flag), .val (.long a), .second, .val (.long b), .second, .val (.long c'), .second, .val (.int oA), .val (.int oB), .val (.int oC), .val (.int mm), .val (.int ts), .val (.long tid), .second, .val (.int tO), .val (.int up), .val (.long zz), .second, .val (.int ((((3 : Int32) + (tl oA)) + (tl oB)) + (tl oC))), .val (.int (((lv oA) + (lv oB)) + (lv oC))), .val (.ref t), .val (.int wr), .val (.ref r1), .val (.ref r2), .val (.int (if o7 then wr7 else (wr + 1 + 1))), .val (.int (0 : Int32)), .unset, .unset, .unset, .unset, .unset]) rfl (q := 429) rfl ?_
                    refine g_iload C at_429 (v := (0 : Int32)) rfl (q := 431) rfl ?_
                    refine g_if_eq C at_431 (q' := 445) (q := 434) (by decide) (by decide) rfl (fun hy => ?_) (fun hn => absurd rfl hn)
                    refine g_iload C at_445 (v := (((lv oA) + (lv oB)) + (lv oC))) rfl (q := 447) rfl ?_
                    refine g_iconst C at_447 (z := (1 : Int32)) rfl (q := 448) rfl ?_
                    refine g_iadd C at_448 (q := 449) rfl ?_
                    refine g_istore C at_449 (L' := #[.val (.long base), .second, .val (.int gaps), .val (.int ops), .val (.int mode), .val (.int targ), .val (.int flag), .val (.long a), .second, .val (.long b), .second, .val (.long c'), .second, .val (.int oA), .val (.int oB), .val (.int oC), .val (.int mm), .val (.int ts), .val (.long tid), .second, .val (.int tO), .val (.int up), .val (.long zz), .second, .val (.int ((((3 : Int32) + (tl oA)) + (tl oB)) + (tl oC))), .val (.int (((lv oA) + (lv oB)) + (lv oC))), .val (.ref t), .val (.int wr), .val (.ref r1), .val (.ref r2), .val (.int (if o7 then wr7 else (wr + 1 + 1))), .val (.int (0 : Int32)), .val (.int ((((lv oA) + (lv oB)) + (lv oC)) + (1 : Int32))), .unset, .unset, .unset, .unset]) rfl (q := 451) rfl ?_
                    refine Go.joinR (pc' := 474) (fun u : Int32 => (u = 0 ∧ n5 = 0) ∨ (u = 1 ∧ ¬ n5 = 0)) (fun _ => #[.val (.long base), .second, .val (.int gaps), .val (.int ops), .val (.int mode), .val (.int targ), .val (.int flag), .val (.long a), .second, .val (.long b), .second, .val (.long c'), .second, .val (.int oA), .val (.int oB), .val (.int oC), .val (.int mm), .val (.int ts), .val (.long tid), .second, .val (.int tO), .val (.int up), .val (.long zz), .second, .val (.int ((((3 : Int32) + (tl oA)) + (tl oB)) + (tl oC))), .val (.int (((lv oA) + (lv oB)) + (lv oC))), .val (.ref t), .val (.int wr), .val (.ref r1), .val (.ref r2), .val (.int (if o7 then wr7 else (wr + 1 + 1))), .val (.int (0 : Int32)), .val (.int ((((lv oA) + (lv oB)) + (lv oC)) + (1 : Int32))), .unset, .unset, .unset, .unset]) (fun u => [.int u]) ?_ (fun J5 => ?_)
                    ·
                      intro u hu
                      refine g_istore C at_474 (L' := #[.val (.long base), .second, .val (.int gaps), .val (.int ops), .val (.int mode), .val (.int targ), .val (.int flag), .val (.long a), .second, .val (.long b), .second, .val (.long c'), .second, .val (.int oA), .val (.int oB), .val (.int oC), .val (.int mm), .val (.int ts), .val (.long tid), .second, .val (.int tO), .val (.int up), .val (.long zz), .second, .val (.int ((((3 : Int32) + (tl oA)) + (tl oB)) + (tl oC))), .val (.int (((lv oA) + (lv oB)) + (lv oC))), .val (.ref t), .val (.int wr), .val (.ref r1), .val (.ref r2), .val (.int (if o7 then wr7 else (wr + 1 + 1))), .val (.int (0 : Int32)), .val (.int ((((lv oA) + (lv oB)) + (lv oC)) + (1 : Int32))), .val (.int u), .unset, .unset, .unset]) rfl (q := 476) rfl ?_
                      refine g_iload C at_476 (v := up) rfl (q := 478) rfl ?_
                      refine Go.joinR (pc' := 491) (fun u2 : Int32 => u2 = (if o7 then 1 else 0)) (fun _ => #[.val (.long base), .second, .val (.int gaps), .val (.int ops), .val (.int mode), .val (.int targ), .val (.int flag), .val (.long a), .second, .val (.long b), .second, .val (.long c'), .second, .val (.int oA), .val (.int oB), .val (.int oC), .val (.int mm), .val (.int ts), .val (.long tid), .second, .val (.int tO), .val (.int up), .val (.long zz), .second, .val (.int ((((3 : Int32) + (tl oA)) + (tl oB)) + (tl oC))), .val (.int (((lv oA) + (lv oB)) + (lv oC))), .val (.ref t), .val (.int wr), .val (.ref r1), .val (.ref r2), .val (.int (if o7 then wr7 else (wr + 1 + 1))), .val (.int (0 : Int32)), .val (.int ((((lv oA) + (lv oB)) + (lv oC)) + (1 : Int32))), .val (.int u), .unset, .unset, .unset]) (fun u2 => [.int u2]) ?_ (fun J6 => ?_)
                      ·
                        intro u2 hu2
                        subst hu2
                        refine g_istore C at_491 (L' := #[.val (.long base), .second, .val (.int gaps), .val (.int ops), .val (.int mode), .val (.int targ), .val (.int flag), .val (.long a), .second, .val (.long b), .second, .val (.long c'), .second, .val (.int oA), .val (.int oB), .val (.int oC), .val (.int mm), .val (.int ts), .val (.long tid), .second, .val (.int tO), .val (.int up), .val (.long zz), .second, .val (.int ((((3 : Int32) + (tl oA)) + (tl oB)) + (tl oC))), .val (.int (((lv oA) + (lv oB)) + (lv oC))), .val (.ref t), .val (.int wr), .val (.ref r1), .val (.ref r2), .val (.int (if o7 then wr7 else (wr + 1 + 1))), .val (.int (0 : Int32)), .val (.int ((((lv oA) + (lv oB)) + (lv oC)) + (1 : Int32))), .val (.int u), .val (.int (if o7 then 1 else 0)), .unset, .unset]) rfl (q := 493) rfl ?_
                        refine g_iload C at_493 (v := (if o7 then 1 else 0)) rfl (q := 495) rfl ?_
                        refine Go.joinR (pc' := 509) (fun ex : Int32 => ex = (if o7 then wr7 else (wr + 1 + 1))) (fun _ => #[.val (.long base), .second, .val (.int gaps), .val (.int ops), .val (.int mode), .val (.int targ), .val (.int flag), .val (.long a), .second, .val (.long b), .second, .val (.long c'), .second, .val (.int oA), .val (.int oB), .val (.int oC), .val (.int mm), .val (.int ts), .val (.long tid), .second, .val (.int tO), .val (.int up), .val (.long zz), .second, .val (.int ((((3 : Int32) + (tl oA)) + (tl oB)) + (tl oC))), .val (.int (((lv oA) + (lv oB)) + (lv oC))), .val (.ref t), .val (.int wr), .val (.ref r1), .val (.ref r2), .val (.int (if o7 then wr7 else (wr + 1 + 1))), .val (.int (0 : Int32)), .val (.int ((((lv oA) + (lv oB)) + (lv oC)) + (1 : Int32))), .val (.int u), .val (.int (if o7 then 1 else 0)), .unset, .unset]) (fun ex => [.int ex]) ?_ (fun J7 => ?_)
                        ·
                          intro ex hex
                          subst hex
                          refine g_istore C at_509 (L' := #[.val (.long base), .second, .val (.int gaps), .val (.int ops), .val (.int mode), .val (.int targ), .val (.int flag), .val (.long a), .second, .val (.long b), .second, .val (.long c'), .second, .val (.int oA), .val (.int oB), .val (.int oC), .val (.int mm), .val (.int ts), .val (.long tid), .second, .val (.int tO), .val (.int up), .val (.long zz), .second, .val (.int ((((3 : Int32) + (tl oA)) + (tl oB)) + (tl oC))), .val (.int (((lv oA) + (lv oB)) + (lv oC))), .val (.ref t), .val (.int wr), .val (.ref r1), .val (.ref r2), .val (.int (if o7 then wr7 else (wr + 1 + 1))), .val (.int (0 : Int32)), .val (.int ((((lv oA) + (lv oB)) + (lv oC)) + (1 : Int32))), .val (.int u), .val (.int (if o7 then 1 else 0)), .val (.int (if o7 then wr7 else (wr + 1 + 1))), .unset]) rfl (q := 511) rfl ?_
                          refine g_iload C at_511 (v := (0 : Int32)) rfl (q := 513) rfl ?_
                          refine g_if_eq C at_513 (q' := 541) (q := 516) (by decide) (by decide) rfl (fun hy => ?_) (fun hn => absurd rfl hn)
                          refine g_aload C at_541 (v := (.ref r2)) rfl rfl (q := 543) rfl ?_
                          refine g_alen C at_543 R27 (z := (0 : Int32)) rfl (q := 544) rfl ?_
                          refine g_if_ne C at_544 (q' := 551) (q := 547) (by decide) (by decide) rfl (fun hy => absurd rfl hy) (fun hn => ?_)
                          refine g_iconst C at_547 (z := (1 : Int32)) rfl (q := 548) rfl ?_
                          refine g_goto C at_548 (q := 552) (by decide) (by decide) ?_
                          refine g_istore C at_552 (L' := #[.val (.long base), .second, .val (.int gaps), .val (.int ops), .val (.int mode), .val (.int targ), .val (.int flag), .val (.long a), .second, .val (.long b), .second, .val (.long c'), .second, .val (.int oA), .val (.int oB), .val (.int oC), .val (.int mm), .val (.int ts), .val (.long tid), .second, .val (.int tO), .val (.int up), .val (.long zz), .second, .val (.int ((((3 : Int32) + (tl oA)) + (tl oB)) + (tl oC))), .val (.int (((lv oA) + (lv oB)) + (lv oC))), .val (.ref t), .val (.int wr), .val (.ref r1), .val (.ref r2), .val (.int (if o7 then wr7 else (wr + 1 + 1))), .val (.int (0 : Int32)), .val (.int ((((lv oA) + (lv oB)) + (lv oC)) + (1 : Int32))), .val (.int u), .val (.int (if o7 then 1 else 0)), .val (.int (if o7 then wr7 else (wr + 1 + 1))), .val (.int (1 : Int32))]) rfl (q := 554) rfl ?_
                          refine g_iload C at_554 (v := wr) rfl (q := 556) rfl ?_
                          refine g_iload C at_556 (v := (((lv oA) + (lv oB)) + (lv oC))) rfl (q := 558) rfl ?_
                          refine g_icmp_ne C at_558 (q' := 583) (q := 561) (by decide) (by decide) rfl (fun hy => absurd ew hy) (fun hn => ?_)
                          refine g_aload C at_561 (v := (.ref r1)) rfl rfl (q := 563) rfl ?_
                          refine g_alen C at_563 R17 (z := (0 : Int32)) rfl (q := 564) rfl ?_
                          refine g_if_ne C at_564 (q' := 583) (q := 567) (by decide) (by decide) rfl (fun hy => absurd rfl hy) (fun hn => ?_)
                          refine g_iload C at_567 (v := (1 : Int32)) rfl (q := 569) rfl ?_
                          refine g_if_eq C at_569 (q' := 583) (q := 572) (by decide) (by decide) rfl (fun hy => absurd hy (by decide)) (fun hn => ?_)
                          refine g_iload C at_572 (v := (if o7 then wr7 else (wr + 1 + 1))) rfl (q := 574) rfl ?_
                          refine g_iload C at_574 (v := (if o7 then wr7 else (wr + 1 + 1))) rfl (q := 576) rfl ?_
                          refine g_icmp_ne C at_576 (q' := 583) (q := 579) (by decide) (by decide) rfl (fun hy => absurd rfl hy) (fun hn => ?_)
                          refine g_iconst C at_579 (z := (1 : Int32)) rfl (q := 580) rfl ?_
                          refine g_goto C at_580 (q := 584) (by decide) (by decide) ?_
                          refine g_nreturn C at_584 (by simp) (z := 1) rfl (Nat.le_refl _) (by decide) (by decide) rfl
                        ·
                          refine g_if_eq C at_495 (q' := 505) (q := 498) (by decide) (by decide) rfl (fun hz => ?_) (fun hnz => ?_)
                          ·
                            refine g_iload C at_505 (v := (((lv oA) + (lv oB)) + (lv oC))) rfl (q := 507) rfl ?_
                            refine g_iconst C at_507 (z := (2 : Int32)) rfl (q := 508) rfl ?_
                            refine g_iadd C at_508 (q := 509) rfl ?_
                            exact J7 _ (by rw [(bool_z o7).mp hz, ← ew]; show wr + 2 = wr + 1 + 1; rw [Int32.add_assoc]; rfl)
                          ·
                            refine g_iload C at_498 (v := ((((lv oA) + (lv oB)) + (lv oC)) + (1 : Int32))) rfl (q := 500) rfl ?_
                            refine g_iconst C at_500 (z := (1 : Int32)) rfl (q := 501) rfl ?_
                            refine g_iadd C at_501 (q := 502) rfl ?_
                            refine g_goto C at_502 (q := 509) (by decide) (by decide) ?_
                            exact J7 _ (by rw [show o7 = true from by cases o7; exact absurd rfl hnz; rfl]; show _ = wr7; rw [ew7, e5, ← ew])
                      ·
                        refine g_if_ne C at_478 (q' := 486) (q := 481) (by decide) (by decide) rfl (fun hz => ?_) (fun hnz => ?_)
                        ·
                          refine g_iconst C at_486 (z := (1 : Int32)) rfl (q := 487) rfl ?_
                          refine g_goto C at_487 (q := 491) (by decide) (by decide) ?_
                          exact J6 _ (by rw [so.mp (Or.inl (by rcases hU with ⟨q, -⟩ | ⟨q, -⟩; exact q; exact absurd q hz))]; rfl)
                        ·
                          refine g_iload C at_481 (v := u) rfl (q := 483) rfl ?_
                          refine g_if_ne C at_483 (q' := 490) (q := 486) (by decide) (by decide) rfl (fun hk1 => ?_) (fun hk0 => ?_)
                          ·
                            refine g_iconst C at_490 (z := (0 : Int32)) rfl (q := 491) rfl ?_
                            exact J6 _ (by
                              have : ¬ o7 = true := fun q => by
                                rcases so.mpr q with q | q
                                · rw [hnz] at q; exact absurd q (by decide)
                                · rcases hu with ⟨e, -⟩ | ⟨-, e⟩
                                  · exact hk1 e
                                  · exact e q
                              rw [if_neg this])
                          ·
                            refine g_iconst C at_486 (z := (1 : Int32)) rfl (q := 487) rfl ?_
                            refine g_goto C at_487 (q := 491) (by decide) (by decide) ?_
                            exact J6 _ (by
                              have : o7 = true := so.mp (Or.inr (by
                                rcases hu with ⟨-, e⟩ | ⟨e, -⟩
                                · exact e
                                · rw [hk0] at e; exact absurd e (by decide)))
                              rw [if_pos this])
                    ·
                      refine g_iload C at_451 (v := oA) rfl (q := 453) rfl ?_
                      refine g_iconst C at_453 (z := (3 : Int32)) rfl (q := 454) rfl ?_
                      refine g_icmp_ne C at_454 (q' := 469) (q := 457) (by decide) (by decide) rfl (fun nA => ?_) (fun eA => ?_)
                      ·
                        refine g_iconst C at_469 (z := (1 : Int32)) rfl (q := 470) rfl ?_
                        refine g_goto C at_470 (q := 474) (by decide) (by decide) ?_
                        exact J5 _ (Or.inr ⟨rfl, fun q => nA (D.none.mp q).1⟩)
                      ·
                        refine g_iload C at_457 (v := oB) rfl (q := 459) rfl ?_
                        refine g_iconst C at_459 (z := (3 : Int32)) rfl (q := 460) rfl ?_
                        refine g_icmp_ne C at_460 (q' := 469) (q := 463) (by decide) (by decide) rfl (fun nB => ?_) (fun eB => ?_)
                        ·
                          refine g_iconst C at_469 (z := (1 : Int32)) rfl (q := 470) rfl ?_
                          refine g_goto C at_470 (q := 474) (by decide) (by decide) ?_
                          exact J5 _ (Or.inr ⟨rfl, fun q => nB (D.none.mp q).2.1⟩)
                        ·
                          refine g_iload C at_463 (v := oC) rfl (q := 465) rfl ?_
                          refine g_iconst C at_465 (z := (3 : Int32)) rfl (q := 466) rfl ?_
                          refine g_icmp_eq C at_466 (q' := 473) (q := 469) (by decide) (by decide) rfl (fun eC => ?_) (fun nC => ?_)
                          ·
                            refine g_iconst C at_473 (z := (0 : Int32)) rfl (q := 474) rfl ?_
                            exact J5 _ (Or.inl ⟨rfl, D.none.mpr ⟨eA, eB, eC⟩⟩)
                          ·
                            refine g_iconst C at_469 (z := (1 : Int32)) rfl (q := 470) rfl ?_
                            refine g_goto C at_470 (q := 474) (by decide) (by decide) ?_
                            exact J5 _ (Or.inr ⟨rfl, fun q => nC (D.none.mp q).2.2⟩)
                ·
                  refine g_aload C at_324 (v := (.ref t)) rfl rfl (q := 326) rfl ?_
                  refine g_callV C (W := 0) (argsL := []) (rest := []) (a := t) at_326 (wd52 hw) (wd53 hw) (wd55 hw) (wd54 hw) (by decide) (nf_of C (wd55 hw)) T.1.1 (Ctr.bk (c_drop l Z a0 kc ku kd ka G t cA xA cr ch 3 (3 + tl oA + tl oB + tl oC) wr false h n0 T (by omega) (fun q => by cases q)) C (wd56 hw) (wd8 hw) (by decide) (by decide)) (by decide) (by decide) rfl (lenOf pd8 rfl) rfl rfl (q := 329) rfl (fun v3 h3 hQ3 => ?_)
                  obtain ⟨rfl, K3, hd⟩ := hQ3
                  have T3 : TY Z h3 n0 t cA xA cr ch 3 (3 + tl oA + tl oB + tl oC) wr false := by
                    rcases hd with ⟨-, q⟩ | ⟨q, -⟩
                    · exact q
                    · cases q
                  refine ⟨[], rfl, ?_⟩
                  have X3 := Ext.keep X K3 (T.ws hn0)
                  have Z3 : n0 ≤ h3.size := Nat.le_trans ZZ K3.1
                  refine g_aload C at_329 (v := (.ref t)) rfl rfl (q := 331) rfl ?_
                  refine g_callV C (W := 0) (argsL := []) (rest := []) (a := t) at_331 (wd57 hw) (wd58 hw) (wd60 hw) (wd59 hw) (by decide) (nf_of C (wd60 hw)) T3.1.1 (Ctr.bk (c_writes l Z a0 kc ku kd ka G t cA xA cr ch 3 (3 + tl oA + tl oB + tl oC) wr false h3 n0 T3) C (wd61 hw) (wd8 hw) (by decide) (by decide)) (by decide) (by decide) rfl (lenOf pd9 rfl) rfl rfl (q := 334) rfl (fun vk hk hQk => ?_)
                  obtain ⟨rfl, rfl⟩ := hQk
                  refine ⟨[(.int (3 + tl oA + tl oB + tl oC))], rfl, ?_⟩
                  refine g_istore C at_334 (L' := #[.val (.long base), .second, .val (.int gaps), .val (.int ops), .val (.int mode), .val (.int targ), .val (.int flag), .val (.long a), .second, .val (.long b), .second, .val (.long c'), .second, .val (.int oA), .val (.int oB), .val (.int oC), .val (.int mm), .val (.int ts), .val (.long tid), .second, .val (.int tO), .val (.int up), .val (.long zz), .second, .val (.int ((((3 : Int32) + (tl oA)) + (tl oB)) + (tl oC))), .val (.int (((lv oA) + (lv oB)) + (lv oC))), .val (.ref t), .val (.int (3 + tl oA + tl oB + tl oC)), .unset, .unset, .unset, .unset, .unset, .unset, .unset, .unset, .unset]) rfl (q := 336) rfl ?_
                  refine g_aload C at_336 (v := (.ref t)) rfl rfl (q := 338) rfl ?_
                  refine g_callV C (W := 0) (argsL := []) (rest := []) (a := t) at_338 (wd62 hw) (wd63 hw) (wd65 hw) (wd64 hw) (by decide) (nf_of C (wd65 hw)) T3.1.1 (Ctr.bk (c_passing l Z a0 kc ku kd ka G t cA xA cr ch 3 (3 + tl oA + tl oB + tl oC) wr false h3 n0 T3 (by omega) Z3) C (wd66 hw) (wd8 hw) (by decide) (by decide)) (by decide) (by decide) rfl (lenOf pd10 rfl) rfl rfl (q := 341) rfl (fun v4 h4 hQ4 => ?_)
                  obtain ⟨r1, rfl, gr1, K4, R1⟩ := hQ4
                  refine ⟨[(.ref r1)], rfl, ?_⟩
                  have e4 : pas cr ch (if false = true then 3 else 0) = [] := rfl
                  rw [e4] at R1
                  have T4 := T3.keep K4 (by simp) (by simp) (by simp)
                  have X4 := Ext.keep X3 K4 (by simp)
                  have Z4 : n0 ≤ h4.size := Nat.le_trans Z3 K4.1
                  refine g_astore C at_341 rfl (L' := #[.val (.long base), .second, .val (.int gaps), .val (.int ops), .val (.int mode), .val (.int targ), .val (.int flag), .val (.long a), .second, .val (.long b), .second, .val (.long c'), .second, .val (.int oA), .val (.int oB), .val (.int oC), .val (.int mm), .val (.int ts), .val (.long tid), .second, .val (.int tO), .val (.int up), .val (.long zz), .second, .val (.int ((((3 : Int32) + (tl oA)) + (tl oB)) + (tl oC))), .val (.int (((lv oA) + (lv oB)) + (lv oC))), .val (.ref t), .val (.int (3 + tl oA + tl oB + tl oC)), .val (.ref r1), .unset, .unset, .unset, .unset, .unset, .unset, .unset, .unset]) rfl (q := 343) rfl ?_
                  refine g_aload C at_343 (v := (.ref t)) rfl rfl (q := 345) rfl ?_
                  refine g_gets C at_345 (host := "") (Or.inl (wd79 hw)) Via.refl (S3.ext X4) (q := 348) rfl ?_
                  refine g_lload C at_348 (v := tid) rfl (q := 350) rfl ?_
                  refine g_callV C (W := 0) (argsL := [(.ref kd), (.long tid)]) (rest := []) (a := t) at_350 (wd29 hw) (wd30 hw) (wd32 hw) (wd31 hw) (by decide) (nf_of C (wd32 hw)) T4.1.1 (Ctr.bk (c_add l Z a0 kc ku kd ka G t cA xA cr ch 3 (3 + tl oA + tl oB + tl oC) wr false h4 n0 T4 kd tid X4 (by omega) (fun q => by cases q) (fun q => by cases q)) C (wd33 hw) (wd8 hw) (by decide) (by decide)) (by decide) (by decide) rfl (lenOf pd5 rfl) rfl rfl (q := 353) rfl (fun v5 h5 hQ5 => ?_)
                  obtain ⟨rfl, K5, cr5, ch5, n5, wr5, o5, T5, M5⟩ := hQ5
                  refine ⟨[], rfl, ?_⟩
                  obtain ⟨en5, rfl⟩ : n5 = 3 ∧ o5 = false := by
                    rcases M5 with ⟨q, -⟩ | ⟨-, -, e, e', -⟩
                    · exact absurd q k2
                    · exact ⟨e, e'⟩
                  have X5 := Ext.keep X4 K5 (T4.ws hn0)
                  have Z5 : n0 ≤ h5.size := Nat.le_trans Z4 K5.1
                  have ll := T4.lts
                  have R15 := R1.keep K5 (fun hm => by
                    simp only [List.mem_cons, List.not_mem_nil, or_false] at hm
                    obtain ⟨u1, u2, u3⟩ := T3.lts
                    rcases hm with q | q | q
                    · rw [q] at gr1; exact absurd gr1 (Nat.not_le.mpr u1)
                    · rw [q] at gr1; exact absurd gr1 (Nat.not_le.mpr u2)
                    · rw [q] at gr1; exact absurd gr1 (Nat.not_le.mpr u3))
                  refine g_aload C at_353 (v := (.ref t)) rfl rfl (q := 355) rfl ?_
                  refine g_callV C (W := 0) (argsL := []) (rest := []) (a := t) at_355 (wd62 hw) (wd63 hw) (wd65 hw) (wd64 hw) (by decide) (nf_of C (wd65 hw)) T5.1.1 (Ctr.bk (c_passing l Z a0 kc ku kd ka G t cA xA cr5 ch5 n5 (3 + tl oA + tl oB + tl oC + 1) wr5 false h5 n0 T5 (by omega) Z5) C (wd66 hw) (wd8 hw) (by decide) (by decide)) (by decide) (by decide) rfl (lenOf pd10 rfl) rfl rfl (q := 358) rfl (fun v6 h6 hQ6 => ?_)
                  obtain ⟨r2, rfl, gr2, K6, R2⟩ := hQ6
                  refine ⟨[(.ref r2)], rfl, ?_⟩
                  have e6 : pas cr5 ch5 (if false = true then n5 else 0) = [] := rfl
                  rw [e6] at R2
                  have T6 := T5.keep K6 (by simp) (by simp) (by simp)
                  have X6 := Ext.keep X5 K6 (by simp)
                  have Z6 : n0 ≤ h6.size := Nat.le_trans Z5 K6.1
                  have R16 := R15.keep K6 (by simp)
                  refine g_astore C at_358 rfl (L' := #[.val (.long base), .second, .val (.int gaps), .val (.int ops), .val (.int mode), .val (.int targ), .val (.int flag), .val (.long a), .second, .val (.long b), .second, .val (.long c'), .second, .val (.int oA), .val (.int oB), .val (.int oC), .val (.int mm), .val (.int ts), .val (.long tid), .second, .val (.int tO), .val (.int up), .val (.long zz), .second, .val (.int ((((3 : Int32) + (tl oA)) + (tl oB)) + (tl oC))), .val (.int (((lv oA) + (lv oB)) + (lv oC))), .val (.ref t), .val (.int (3 + tl oA + tl oB + tl oC)), .val (.ref r1), .val (.ref r2), .unset, .unset, .unset, .unset, .unset, .unset, .unset]) rfl (q := 360) rfl ?_
                  refine g_aload C at_360 (v := (.ref t)) rfl rfl (q := 362) rfl ?_
                  refine g_gets C at_362 (host := "") (Or.inl (wd26 hw)) Via.refl (S1.ext X6) (q := 365) rfl ?_
                  refine g_lload C at_365 (v := zz) rfl (q := 367) rfl ?_
                  refine g_callV C (W := 0) (argsL := [(.ref kc), (.long zz)]) (rest := []) (a := t) at_367 (wd29 hw) (wd30 hw) (wd32 hw) (wd31 hw) (by decide) (nf_of C (wd32 hw)) T6.1.1 (Ctr.bk (c_add l Z a0 kc ku kd ka G t cA xA cr5 ch5 n5 (3 + tl oA + tl oB + tl oC + 1) wr5 false h6 n0 T6 kc zz X6 (by omega) (fun q => by cases q) (fun q => by cases q)) C (wd33 hw) (wd8 hw) (by decide) (by decide)) (by decide) (by decide) rfl (lenOf pd5 rfl) rfl rfl (q := 370) rfl (fun v7 h7 hQ7 => ?_)
                  obtain ⟨rfl, K7, cr7, ch7, n7, wr7, o7, T7, M7⟩ := hQ7
                  refine ⟨[], rfl, ?_⟩
                  obtain rfl : o7 = false := by
                    rcases M7 with ⟨-, -, -, -, -, e'⟩ | ⟨q, -⟩
                    · exact e'
                    · exact absurd rfl q
                  have nin : ∀ y, y ∈ [t, cA, xA] → y < h4.size := fun y hy => by
                    simp only [List.mem_cons, List.not_mem_nil, or_false] at hy
                    rcases hy with rfl | rfl | rfl
                    · exact ll.1
                    · exact ll.2.1
                    · exact ll.2.2
                  have R17 := R16.keep K7 (fun hm => by
                    obtain ⟨u1, u2, u3⟩ := T3.lts
                    simp only [List.mem_cons, List.not_mem_nil, or_false] at hm
                    rcases hm with q | q | q
                    · rw [q] at gr1; exact absurd gr1 (Nat.not_le.mpr u1)
                    · rw [q] at gr1; exact absurd gr1 (Nat.not_le.mpr u2)
                    · rw [q] at gr1; exact absurd gr1 (Nat.not_le.mpr u3))
                  have R27 := R2.keep K7 (fun hm => absurd (Nat.le_trans K5.1 gr2) (Nat.not_le.mpr (nin _ hm)))
                  refine g_aload C at_370 (v := (.ref t)) rfl rfl (q := 372) rfl ?_
                  refine g_callV C (W := 0) (argsL := []) (rest := []) (a := t) at_372 (wd57 hw) (wd58 hw) (wd60 hw) (wd59 hw) (by decide) (nf_of C (wd60 hw)) T7.1.1 (Ctr.bk (c_writes l Z a0 kc ku kd ka G t cA xA cr7 ch7 n7 (3 + tl oA + tl oB + tl oC + 1 + 1) wr7 false h7 n0 T7) C (wd61 hw) (wd8 hw) (by decide) (by decide)) (by decide) (by decide) rfl (lenOf pd9 rfl) rfl rfl (q := 375) rfl (fun vk hk hQk => ?_)
                  obtain ⟨rfl, rfl⟩ := hQk
                  refine ⟨[(.int (3 + tl oA + tl oB + tl oC + 1 + 1))], rfl, ?_⟩
                  refine g_istore C at_375 (L' := #[.val (.long base), .second, .val (.int gaps), .val (.int ops), .val (.int mode), .val (.int targ), .val (.int flag), .val (.long a), .second, .val (.long b), .second, .val (.long c'), .second, .val (.int oA), .val (.int oB), .val (.int oC), .val (.int mm), .val (.int ts), .val (.long tid), .second, .val (.int tO), .val (.int up), .val (.long zz), .second, .val (.int ((((3 : Int32) + (tl oA)) + (tl oB)) + (tl oC))), .val (.int (((lv oA) + (lv oB)) + (lv oC))), .val (.ref t), .val (.int (3 + tl oA + tl oB + tl oC)), .val (.ref r1), .val (.ref r2), .val (.int (3 + tl oA + tl oB + tl oC + 1 + 1)), .unset, .unset, .unset, .unset, .unset, .unset]) rfl (q := 377) rfl ?_
                  refine g_iload C at_377 (v := mm) rfl (q := 379) rfl ?_
                  refine g_if_eq C at_379 (q' := 416) (q := 382) (by decide) (by decide) rfl (fun hy => absurd hy hm) (fun hn => ?_)
                  refine g_iload C at_382 (v := (3 + tl oA + tl oB + tl oC)) rfl (q := 384) rfl ?_
                  refine g_iload C at_384 (v := ((((3 : Int32) + (tl oA)) + (tl oB)) + (tl oC))) rfl (q := 386) rfl ?_
                  refine g_icmp_ne C at_386 (q' := 414) (q := 389) (by decide) (by decide) rfl (fun hy => absurd rfl hy) (fun hn => ?_)
                  refine g_aload C at_389 (v := (.ref r1)) rfl rfl (q := 391) rfl ?_
                  refine g_alen C at_391 R17 (z := (0 : Int32)) rfl (q := 392) rfl ?_
                  refine g_if_ne C at_392 (q' := 414) (q := 395) (by decide) (by decide) rfl (fun hy => absurd rfl hy) (fun hn => ?_)
                  refine g_aload C at_395 (v := (.ref r2)) rfl rfl (q := 397) rfl ?_
                  refine g_alen C at_397 R27 (z := (0 : Int32)) rfl (q := 398) rfl ?_
                  refine g_if_ne C at_398 (q' := 414) (q := 401) (by decide) (by decide) rfl (fun hy => absurd rfl hy) (fun hn => ?_)
                  refine g_iload C at_401 (v := (3 + tl oA + tl oB + tl oC + 1 + 1)) rfl (q := 403) rfl ?_
                  refine g_iload C at_403 (v := ((((3 : Int32) + (tl oA)) + (tl oB)) + (tl oC))) rfl (q := 405) rfl ?_
                  refine g_iconst C at_405 (z := (2 : Int32)) rfl (q := 406) rfl ?_
                  refine g_iadd C at_406 (q := 407) rfl ?_
                  refine g_icmp_ne C at_407 (q' := 414) (q := 410) (by decide) (by decide) rfl (fun hy => absurd (by rw [Int32.add_assoc _ 1 1]; rfl) hy) (fun hn => ?_)
                  refine g_iconst C at_410 (z := (1 : Int32)) rfl (q := 411) rfl ?_
                  refine g_goto C at_411 (q := 415) (by decide) (by decide) ?_
                  refine g_nreturn C at_415 (by simp) (z := 1) rfl (Nat.le_refl _) (by decide) (by decide) rfl
              refine g_if_ne C at_228 (q' := 261) (q := 231) (by decide) (by decide) rfl (fun hm0 => ?_) (fun em0 => ?_)
              ·
                refine g_iload C at_261 (v := mm) rfl (q := 263) rfl ?_
                refine g_iconst C at_263 (z := (1 : Int32)) rfl (q := 264) rfl ?_
                refine g_icmp_ne C at_264 (q' := 297) (q := 267) (by decide) (by decide) rfl (fun hm1 => ?_) (fun em1 => ?_)
                ·
                  refine g_aload C at_297 (v := (.ref t)) rfl rfl (q := 299) rfl ?_
                  refine g_lload C at_299 (v := c') rfl (q := 301) rfl ?_
                  refine g_iload C at_301 (v := oC) rfl (q := 303) rfl ?_
                  refine g_callS C (W := 0) (argsL := [(.ref t), (.long c'), (.int oC)]) (rest := []) at_303 (wd23 hw) (wd24 hw) (wd4 hw) (wd25 hw) (by decide) (Ctr.bk (c_cwo l Z a0 kc ku kd ka G t cA xA (fun _ => 0) (fun _ => 0) 0 0 0 true h2 n0 T0 c' oC X2 hn0 (by omega) hoC (fun _ i j _ hj => absurd hj (by omega)) (fun _ hp _ => absurd hp (by omega))) C (wd25 hw) (wd4 hw) (by decide) (by decide)) (by decide) (by decide) rfl (lenOf pd11 rfl) rfl rfl (q := 306) rfl (fun vq1 hq1 hQq1 => ?_)
                  obtain ⟨rfl, Kq1, cr1, ch1, n1, wr1, o1, Tq1, Cq1⟩ := hQq1
                  refine ⟨[], rfl, ?_⟩
                  obtain ⟨rfl, eo1, cq1⟩ := Cq1
                  have Xq1 := Ext.keep X2 Kq1 (T0.ws hn0)
                  have Zq1 : n0 ≤ hq1.size := Nat.le_trans Z2 Kq1.1
                  obtain ⟨ca, wa⟩ := cq1 (by rw [eo1]; rfl)
                  have f0 : cr1 0 = c' := (ca 0 (by omega)).1
                  refine g_aload C at_306 (v := (.ref t)) rfl rfl (q := 308) rfl ?_
                  refine g_lload C at_308 (v := a) rfl (q := 310) rfl ?_
                  refine g_iload C at_310 (v := oA) rfl (q := 312) rfl ?_
                  refine g_callS C (W := 0) (argsL := [(.ref t), (.long a), (.int oA)]) (rest := []) at_312 (wd23 hw) (wd24 hw) (wd4 hw) (wd25 hw) (by decide) (Ctr.bk (c_cwo l Z a0 kc ku kd ka G t cA xA cr1 ch1 (0 + 1) (0 + (1 + tl oC)) wr1 o1 hq1 n0 Tq1 a oA Xq1 hn0 (by omega) hoA (fun _ i j _ hj => absurd hj (by omega)) (fun _ _ _ => by show (cr1 0).toInt - _ < _; rw [f0]; omega)) C (wd25 hw) (wd4 hw) (by decide) (by decide)) (by decide) (by decide) rfl (lenOf pd11 rfl) rfl rfl (q := 315) rfl (fun vq2 hq2 hQq2 => ?_)
                  obtain ⟨rfl, Kq2, cr2, ch2, n2, wr2, o2, Tq2, Cq2⟩ := hQq2
                  refine ⟨[], rfl, ?_⟩
                  obtain ⟨rfl, eo2, cq2⟩ := Cq2
                  have Xq2 := Ext.keep Xq1 Kq2 (Tq1.ws hn0)
                  have Zq2 : n0 ≤ hq2.size := Nat.le_trans Zq1 Kq2.1
                  have eo2' : o2 = false := by
                    rw [eo2]
                    have : ¬ cr1 0 < a := by rw [f0, Int64.lt_iff_toInt_lt]; omega
                    simp [this]
                  refine g_aload C at_315 (v := (.ref t)) rfl rfl (q := 317) rfl ?_
                  refine g_lload C at_317 (v := b) rfl (q := 319) rfl ?_
                  refine g_iload C at_319 (v := oB) rfl (q := 321) rfl ?_
                  refine g_callS C (W := 0) (argsL := [(.ref t), (.long b), (.int oB)]) (rest := []) at_321 (wd23 hw) (wd24 hw) (wd4 hw) (wd25 hw) (by decide) (Ctr.bk (c_cwo l Z a0 kc ku kd ka G t cA xA cr2 ch2 (0 + 1 + 1) ((0 + (1 + tl oC)) + (1 + tl oA)) wr2 o2 hq2 n0 Tq2 b oB Xq2 hn0 (by omega) hoB (fun q => by rw [eo2'] at q; cases q) (fun q => by rw [eo2'] at q; cases q)) C (wd25 hw) (wd4 hw) (by decide) (by decide)) (by decide) (by decide) rfl (lenOf pd11 rfl) rfl rfl (q := 324) rfl (fun vq3 hq3 hQq3 => ?_)
                  obtain ⟨rfl, Kq3, cr3, ch3, n3, wr3, o3, Tq3, Cq3⟩ := hQq3
                  refine ⟨[], rfl, ?_⟩
                  obtain ⟨rfl, eo3, cq3⟩ := Cq3
                  have Xq3 := Ext.keep Xq2 Kq3 (Tq2.ws hn0)
                  have Zq3 : n0 ≤ hq3.size := Nat.le_trans Zq2 Kq3.1
                  exact J4 hq3 cr3 ch3 3 wr3 o3 (by have := Tq3; rw [show 0 + (1 + tl oC) + (1 + tl oA) + (1 + tl oB) = 3 + tl oA + tl oB + tl oC from by rw [told_eq2, told_eq3]] at this; exact this) Xq3 Zq3 (Or.inr ⟨hm0, by rw [eo3, eo2']; rfl, rfl⟩)
                ·
                  refine g_aload C at_267 (v := (.ref t)) rfl rfl (q := 269) rfl ?_
                  refine g_lload C at_269 (v := b) rfl (q := 271) rfl ?_
                  refine g_iload C at_271 (v := oB) rfl (q := 273) rfl ?_
                  refine g_callS C (W := 0) (argsL := [(.ref t), (.long b), (.int oB)]) (rest := []) at_273 (wd23 hw) (wd24 hw) (wd4 hw) (wd25 hw) (by decide) (Ctr.bk (c_cwo l Z a0 kc ku kd ka G t cA xA (fun _ => 0) (fun _ => 0) 0 0 0 true h2 n0 T0 b oB X2 hn0 (by omega) hoB (fun _ i j _ hj => absurd hj (by omega)) (fun _ hp _ => absurd hp (by omega))) C (wd25 hw) (wd4 hw) (by decide) (by decide)) (by decide) (by decide) rfl (lenOf pd11 rfl) rfl rfl (q := 276) rfl (fun vq1 hq1 hQq1 => ?_)
                  obtain ⟨rfl, Kq1, cr1, ch1, n1, wr1, o1, Tq1, Cq1⟩ := hQq1
                  refine ⟨[], rfl, ?_⟩
                  obtain ⟨rfl, eo1, cq1⟩ := Cq1
                  have Xq1 := Ext.keep X2 Kq1 (T0.ws hn0)
                  have Zq1 : n0 ≤ hq1.size := Nat.le_trans Z2 Kq1.1
                  obtain ⟨ca, wa⟩ := cq1 (by rw [eo1]; rfl)
                  have f0 : cr1 0 = b := (ca 0 (by omega)).1
                  refine g_aload C at_276 (v := (.ref t)) rfl rfl (q := 278) rfl ?_
                  refine g_lload C at_278 (v := c') rfl (q := 280) rfl ?_
                  refine g_iload C at_280 (v := oC) rfl (q := 282) rfl ?_
                  refine g_callS C (W := 0) (argsL := [(.ref t), (.long c'), (.int oC)]) (rest := []) at_282 (wd23 hw) (wd24 hw) (wd4 hw) (wd25 hw) (by decide) (Ctr.bk (c_cwo l Z a0 kc ku kd ka G t cA xA cr1 ch1 (0 + 1) (0 + (1 + tl oB)) wr1 o1 hq1 n0 Tq1 c' oC Xq1 hn0 (by omega) hoC (fun _ i j _ hj => absurd hj (by omega)) (fun _ _ _ => by show (cr1 0).toInt - _ < _; rw [f0]; omega)) C (wd25 hw) (wd4 hw) (by decide) (by decide)) (by decide) (by decide) rfl (lenOf pd11 rfl) rfl rfl (q := 285) rfl (fun vq2 hq2 hQq2 => ?_)
                  obtain ⟨rfl, Kq2, cr2, ch2, n2, wr2, o2, Tq2, Cq2⟩ := hQq2
                  refine ⟨[], rfl, ?_⟩
                  obtain ⟨rfl, eo2, cq2⟩ := Cq2
                  have Xq2 := Ext.keep Xq1 Kq2 (Tq1.ws hn0)
                  have Zq2 : n0 ≤ hq2.size := Nat.le_trans Zq1 Kq2.1
                  have eo2' : o2 = true := by
                    rw [eo2, eo1]
                    have : cr1 0 < c' := by rw [f0, Int64.lt_iff_toInt_lt]; omega
                    simp [this]
                  obtain ⟨cb, wb⟩ := cq2 eo2'
                  have g0 : cr2 0 = b := (cb 0 (by omega)).1.trans f0
                  have g1' : cr2 1 = c' := (cb 1 (by omega)).1
                  refine g_aload C at_285 (v := (.ref t)) rfl rfl (q := 287) rfl ?_
                  refine g_lload C at_287 (v := a) rfl (q := 289) rfl ?_
                  refine g_iload C at_289 (v := oA) rfl (q := 291) rfl ?_
                  refine g_callS C (W := 0) (argsL := [(.ref t), (.long a), (.int oA)]) (rest := []) at_291 (wd23 hw) (wd24 hw) (wd4 hw) (wd25 hw) (by decide) (Ctr.bk (c_cwo l Z a0 kc ku kd ka G t cA xA cr2 ch2 (0 + 1 + 1) ((0 + (1 + tl oB)) + (1 + tl oC)) wr2 o2 hq2 n0 Tq2 a oA Xq2 hn0 (by omega) hoA (fun _ i j hij hj => by
                    obtain ⟨rfl, rfl⟩ : i = 0 ∧ j = 1 := by omega
                    rw [g0, g1', Int64.lt_iff_toInt_lt]; omega) (fun _ _ _ => by show (cr2 1).toInt - _ < _; rw [g1']; omega)) C (wd25 hw) (wd4 hw) (by decide) (by decide)) (by decide) (by decide) rfl (lenOf pd11 rfl) rfl rfl (q := 294) rfl (fun vq3 hq3 hQq3 => ?_)
                  obtain ⟨rfl, Kq3, cr3, ch3, n3, wr3, o3, Tq3, Cq3⟩ := hQq3
                  refine ⟨[], rfl, ?_⟩
                  obtain ⟨rfl, eo3, cq3⟩ := Cq3
                  have Xq3 := Ext.keep Xq2 Kq3 (Tq2.ws hn0)
                  have Zq3 : n0 ≤ hq3.size := Nat.le_trans Zq2 Kq3.1
                  refine g_goto C at_294 (q := 324) (by decide) (by decide) ?_
                  exact J4 hq3 cr3 ch3 3 wr3 o3 (by have := Tq3; rw [told_eq2] at this; exact this) Xq3 Zq3 (Or.inr ⟨hm0, by
                    rw [eo3]
                    have : ¬ cr2 1 < a := by rw [g1', Int64.lt_iff_toInt_lt]; omega
                    simp [this], rfl⟩)
              ·
                refine g_aload C at_231 (v := (.ref t)) rfl rfl (q := 233) rfl ?_
                refine g_lload C at_233 (v := a) rfl (q := 235) rfl ?_
                refine g_iload C at_235 (v := oA) rfl (q := 237) rfl ?_
                refine g_callS C (W := 0) (argsL := [(.ref t), (.long a), (.int oA)]) (rest := []) at_237 (wd23 hw) (wd24 hw) (wd4 hw) (wd25 hw) (by decide) (Ctr.bk (c_cwo l Z a0 kc ku kd ka G t cA xA (fun _ => 0) (fun _ => 0) 0 0 0 true h2 n0 T0 a oA X2 hn0 (by omega) hoA (fun _ i j _ hj => absurd hj (by omega)) (fun _ hp _ => absurd hp (by omega))) C (wd25 hw) (wd4 hw) (by decide) (by decide)) (by decide) (by decide) rfl (lenOf pd11 rfl) rfl rfl (q := 240) rfl (fun vq1 hq1 hQq1 => ?_)
                obtain ⟨rfl, Kq1, cr1, ch1, n1, wr1, o1, Tq1, Cq1⟩ := hQq1
                refine ⟨[], rfl, ?_⟩
                obtain ⟨rfl, eo1, cq1⟩ := Cq1
                have Xq1 := Ext.keep X2 Kq1 (T0.ws hn0)
                have Zq1 : n0 ≤ hq1.size := Nat.le_trans Z2 Kq1.1
                obtain ⟨ca, wa⟩ := cq1 (by rw [eo1]; rfl)
                have f0 : cr1 0 = a := (ca 0 (by omega)).1
                refine g_aload C at_240 (v := (.ref t)) rfl rfl (q := 242) rfl ?_
                refine g_lload C at_242 (v := b) rfl (q := 244) rfl ?_
                refine g_iload C at_244 (v := oB) rfl (q := 246) rfl ?_
                refine g_callS C (W := 0) (argsL := [(.ref t), (.long b), (.int oB)]) (rest := []) at_246 (wd23 hw) (wd24 hw) (wd4 hw) (wd25 hw) (by decide) (Ctr.bk (c_cwo l Z a0 kc ku kd ka G t cA xA cr1 ch1 (0 + 1) (0 + (1 + tl oA)) wr1 o1 hq1 n0 Tq1 b oB Xq1 hn0 (by omega) hoB (fun _ i j _ hj => absurd hj (by omega)) (fun _ _ _ => by show (cr1 0).toInt - _ < _; rw [f0]; omega)) C (wd25 hw) (wd4 hw) (by decide) (by decide)) (by decide) (by decide) rfl (lenOf pd11 rfl) rfl rfl (q := 249) rfl (fun vq2 hq2 hQq2 => ?_)
                obtain ⟨rfl, Kq2, cr2, ch2, n2, wr2, o2, Tq2, Cq2⟩ := hQq2
                refine ⟨[], rfl, ?_⟩
                obtain ⟨rfl, eo2, cq2⟩ := Cq2
                have Xq2 := Ext.keep Xq1 Kq2 (Tq1.ws hn0)
                have Zq2 : n0 ≤ hq2.size := Nat.le_trans Zq1 Kq2.1
                have eo2' : o2 = true := by
                  rw [eo2, eo1]
                  have : cr1 0 < b := by rw [f0, Int64.lt_iff_toInt_lt]; omega
                  simp [this]
                obtain ⟨cb, wb⟩ := cq2 eo2'
                have g0 : cr2 0 = a := (cb 0 (by omega)).1.trans f0
                have g1' : cr2 1 = b := (cb 1 (by omega)).1
                refine g_aload C at_249 (v := (.ref t)) rfl rfl (q := 251) rfl ?_
                refine g_lload C at_251 (v := c') rfl (q := 253) rfl ?_
                refine g_iload C at_253 (v := oC) rfl (q := 255) rfl ?_
                refine g_callS C (W := 0) (argsL := [(.ref t), (.long c'), (.int oC)]) (rest := []) at_255 (wd23 hw) (wd24 hw) (wd4 hw) (wd25 hw) (by decide) (Ctr.bk (c_cwo l Z a0 kc ku kd ka G t cA xA cr2 ch2 (0 + 1 + 1) ((0 + (1 + tl oA)) + (1 + tl oB)) wr2 o2 hq2 n0 Tq2 c' oC Xq2 hn0 (by omega) hoC (fun _ i j hij hj => by
                  obtain ⟨rfl, rfl⟩ : i = 0 ∧ j = 1 := by omega
                  rw [g0, g1', Int64.lt_iff_toInt_lt]; omega) (fun _ _ _ => by show (cr2 1).toInt - _ < _; rw [g1']; omega)) C (wd25 hw) (wd4 hw) (by decide) (by decide)) (by decide) (by decide) rfl (lenOf pd11 rfl) rfl rfl (q := 258) rfl (fun vq3 hq3 hQq3 => ?_)
                obtain ⟨rfl, Kq3, cr3, ch3, n3, wr3, o3, Tq3, Cq3⟩ := hQq3
                refine ⟨[], rfl, ?_⟩
                obtain ⟨rfl, eo3, cq3⟩ := Cq3
                have Xq3 := Ext.keep Xq2 Kq3 (Tq2.ws hn0)
                have Zq3 : n0 ≤ hq3.size := Nat.le_trans Zq2 Kq3.1
                have eo3' : o3 = true := by
                  rw [eo3, eo2']
                  have : cr2 1 < c' := by rw [g1', Int64.lt_iff_toInt_lt]; omega
                  simp [this]
                obtain ⟨cc, wc⟩ := cq3 eo3'
                refine g_goto C at_258 (q := 324) (by decide) (by decide) ?_
                exact J4 hq3 cr3 ch3 3 wr3 o3 (by have := Tq3; rw [told_eq] at this; exact this) Xq3 Zq3 (Or.inl ⟨em0, eo3', rfl, ⟨(cc 0 (by omega)).1.trans g0, ((cc 0 (by omega)).2.trans (cb 0 (by omega)).2).trans (ca 0 (by omega)).2⟩, ⟨(cc 1 (by omega)).1.trans g1', (cc 1 (by omega)).2.trans (cb 1 (by omega)).2⟩, ⟨(cc 2 (by omega)).1, (cc 2 (by omega)).2⟩, by rw [wc, wb, wa, Int32.zero_add]⟩)
            ·
              refine g_if_eq C at_187 (q' := 194) (q := 190) (by decide) (by decide) rfl (fun hz => ?_) (fun hnz => ?_)
              ·
                refine g_iconst C at_194 (z := (0 : Int32)) rfl (q := 195) rfl ?_
                exact JJ _ (by rw [hz]; rfl)
              ·
                refine g_iconst C at_190 (z := (1 : Int32)) rfl (q := 191) rfl ?_
                refine g_goto C at_191 (q := 195) (by decide) (by decide) ?_
                exact JJ _ (by simp [tl, hnz])
          ·
            refine g_if_eq C at_176 (q' := 183) (q := 179) (by decide) (by decide) rfl (fun hz => ?_) (fun hnz => ?_)
            ·
              refine g_iconst C at_183 (z := (0 : Int32)) rfl (q := 184) rfl ?_
              exact JJ _ (by rw [hz]; rfl)
            ·
              refine g_iconst C at_179 (z := (1 : Int32)) rfl (q := 180) rfl ?_
              refine g_goto C at_180 (q := 184) (by decide) (by decide) ?_
              exact JJ _ (by simp [tl, hnz])
        ·
          refine g_if_eq C at_165 (q' := 172) (q := 168) (by decide) (by decide) rfl (fun hz => ?_) (fun hnz => ?_)
          ·
            refine g_iconst C at_172 (z := (0 : Int32)) rfl (q := 173) rfl ?_
            exact JJ _ (by rw [hz]; rfl)
          ·
            refine g_iconst C at_168 (z := (1 : Int32)) rfl (q := 169) rfl ?_
            refine g_goto C at_169 (q := 173) (by decide) (by decide) ?_
            exact JJ _ (by simp [tl, hnz])
      ·
        refine g_if_eq C at_136 (q' := 143) (q := 139) (by decide) (by decide) rfl (fun hz => ?_) (fun hnz => ?_)
        ·
          refine g_iconst C at_143 (z := (0 : Int32)) rfl (q := 144) rfl ?_
          refine g_istore C at_144 (L' := #[.val (.long base), .second, .val (.int gaps), .val (.int ops), .val (.int mode), .val (.int targ), .val (.int flag), .val (.long a), .second, .val (.long b), .second, .val (.long c'), .second, .val (.int oA), .val (.int oB), .val (.int oC), .val (.int mm), .val (.int ts), .val (.long tid), .second, .val (.int tO), .val (.int (0 : Int32)), .unset, .unset, .unset, .unset, .unset, .unset, .unset, .unset, .unset, .unset, .unset, .unset, .unset, .unset, .unset]) rfl (q := 146) rfl ?_
          refine g_iload C at_146 (v := (0 : Int32)) rfl (q := 148) rfl ?_
          refine g_if_eq C at_148 (q' := 158) (q := 151) (by decide) (by decide) rfl (fun hy => ?_) (fun hn => absurd rfl hn)
          refine g_lload C at_158 (v := a) rfl (q := 160) rfl ?_
          refine g_lstore C at_160 (L' := #[.val (.long base), .second, .val (.int gaps), .val (.int ops), .val (.int mode), .val (.int targ), .val (.int flag), .val (.long a), .second, .val (.long b), .second, .val (.long c'), .second, .val (.int oA), .val (.int oB), .val (.int oC), .val (.int mm), .val (.int ts), .val (.long tid), .second, .val (.int tO), .val (.int (0 : Int32)), .val (.long a), .second, .unset, .unset, .unset, .unset, .unset, .unset, .unset, .unset, .unset, .unset, .unset, .unset, .unset]) rfl (q := 162) rfl ?_
          exact J3 (0, a) (Or.inr ⟨rfl, rfl⟩)
        ·
          refine g_iconst C at_139 (z := (1 : Int32)) rfl (q := 140) rfl ?_
          refine g_goto C at_140 (q := 144) (by decide) (by decide) ?_
          refine g_istore C at_144 (L' := #[.val (.long base), .second, .val (.int gaps), .val (.int ops), .val (.int mode), .val (.int targ), .val (.int flag), .val (.long a), .second, .val (.long b), .second, .val (.long c'), .second, .val (.int oA), .val (.int oB), .val (.int oC), .val (.int mm), .val (.int ts), .val (.long tid), .second, .val (.int tO), .val (.int (1 : Int32)), .unset, .unset, .unset, .unset, .unset, .unset, .unset, .unset, .unset, .unset, .unset, .unset, .unset, .unset, .unset]) rfl (q := 146) rfl ?_
          refine g_iload C at_146 (v := (1 : Int32)) rfl (q := 148) rfl ?_
          refine g_if_eq C at_148 (q' := 158) (q := 151) (by decide) (by decide) rfl (fun hy => absurd hy (by decide)) (fun hn => ?_)
          refine g_lload C at_151 (v := c') rfl (q := 153) rfl ?_
          refine g_lconst C at_153 (z := (1 : Int64)) rfl (q := 154) rfl ?_
          refine g_ladd C at_154 (q := 155) rfl ?_
          refine g_goto C at_155 (q := 160) (by decide) (by decide) ?_
          refine g_lstore C at_160 (L' := #[.val (.long base), .second, .val (.int gaps), .val (.int ops), .val (.int mode), .val (.int targ), .val (.int flag), .val (.long a), .second, .val (.long b), .second, .val (.long c'), .second, .val (.int oA), .val (.int oB), .val (.int oC), .val (.int mm), .val (.int ts), .val (.long tid), .second, .val (.int tO), .val (.int (1 : Int32)), .val (.long (c' + (1 : Int64))), .second, .unset, .unset, .unset, .unset, .unset, .unset, .unset, .unset, .unset, .unset, .unset, .unset, .unset]) rfl (q := 162) rfl ?_
          exact J3 (1, c' + 1) (Or.inl ⟨rfl, rfl⟩)
    ·
      refine g_if_ne C at_84 (q' := 92) (q := 87) (by decide) (by decide) rfl (fun t0 => ?_) (fun s0' => ?_)
      ·
        refine g_iload C at_92 (v := ts) rfl (q := 94) rfl ?_
        refine g_iconst C at_94 (z := (1 : Int32)) rfl (q := 95) rfl ?_
        refine g_icmp_ne C at_95 (q' := 103) (q := 98) (by decide) (by decide) rfl (fun t1 => ?_) (fun s1' => ?_)
        ·
          refine g_lload C at_103 (v := c') rfl (q := 105) rfl ?_
          refine g_lstore C at_105 (L' := #[.val (.long base), .second, .val (.int gaps), .val (.int ops), .val (.int mode), .val (.int targ), .val (.int flag), .val (.long a), .second, .val (.long b), .second, .val (.long c'), .second, .val (.int oA), .val (.int oB), .val (.int oC), .val (.int mm), .val (.int ts), .val (.long c'), .second, .unset, .unset, .unset, .unset, .unset, .unset, .unset, .unset, .unset, .unset, .unset, .unset, .unset, .unset, .unset, .unset, .unset]) rfl (q := 107) rfl ?_
          refine g_iload C at_107 (v := ts) rfl (q := 109) rfl ?_
          refine g_if_ne C at_109 (q' := 117) (q := 112) (by decide) (by decide) rfl (fun hy => ?_) (fun hn => absurd hn t0)
          refine g_iload C at_117 (v := ts) rfl (q := 119) rfl ?_
          refine g_iconst C at_119 (z := (1 : Int32)) rfl (q := 120) rfl ?_
          refine g_icmp_ne C at_120 (q' := 128) (q := 123) (by decide) (by decide) rfl (fun hy => ?_) (fun hn => absurd hn t1)
          refine g_iload C at_128 (v := oC) rfl (q := 130) rfl ?_
          refine g_istore C at_130 (L' := #[.val (.long base), .second, .val (.int gaps), .val (.int ops), .val (.int mode), .val (.int targ), .val (.int flag), .val (.long a), .second, .val (.long b), .second, .val (.long c'), .second, .val (.int oA), .val (.int oB), .val (.int oC), .val (.int mm), .val (.int ts), .val (.long c'), .second, .val (.int oC), .unset, .unset, .unset, .unset, .unset, .unset, .unset, .unset, .unset, .unset, .unset, .unset, .unset, .unset, .unset, .unset]) rfl (q := 132) rfl ?_
          exact J2 (c', oC) (Or.inr (Or.inr ⟨rfl, rfl⟩))
        ·
          refine g_lload C at_98 (v := b) rfl (q := 100) rfl ?_
          refine g_goto C at_100 (q := 105) (by decide) (by decide) ?_
          refine g_lstore C at_105 (L' := #[.val (.long base), .second, .val (.int gaps), .val (.int ops), .val (.int mode), .val (.int targ), .val (.int flag), .val (.long a), .second, .val (.long b), .second, .val (.long c'), .second, .val (.int oA), .val (.int oB), .val (.int oC), .val (.int mm), .val (.int ts), .val (.long b), .second, .unset, .unset, .unset, .unset, .unset, .unset, .unset, .unset, .unset, .unset, .unset, .unset, .unset, .unset, .unset, .unset, .unset]) rfl (q := 107) rfl ?_
          refine g_iload C at_107 (v := ts) rfl (q := 109) rfl ?_
          refine g_if_ne C at_109 (q' := 117) (q := 112) (by decide) (by decide) rfl (fun hy => ?_) (fun hn => absurd hn t0)
          refine g_iload C at_117 (v := ts) rfl (q := 119) rfl ?_
          refine g_iconst C at_119 (z := (1 : Int32)) rfl (q := 120) rfl ?_
          refine g_icmp_ne C at_120 (q' := 128) (q := 123) (by decide) (by decide) rfl (fun hy => absurd s1' hy) (fun hn => ?_)
          refine g_iload C at_123 (v := oB) rfl (q := 125) rfl ?_
          refine g_goto C at_125 (q := 130) (by decide) (by decide) ?_
          refine g_istore C at_130 (L' := #[.val (.long base), .second, .val (.int gaps), .val (.int ops), .val (.int mode), .val (.int targ), .val (.int flag), .val (.long a), .second, .val (.long b), .second, .val (.long c'), .second, .val (.int oA), .val (.int oB), .val (.int oC), .val (.int mm), .val (.int ts), .val (.long b), .second, .val (.int oB), .unset, .unset, .unset, .unset, .unset, .unset, .unset, .unset, .unset, .unset, .unset, .unset, .unset, .unset, .unset, .unset]) rfl (q := 132) rfl ?_
          exact J2 (b, oB) (Or.inr (Or.inl ⟨rfl, rfl⟩))
      ·
        refine g_lload C at_87 (v := a) rfl (q := 89) rfl ?_
        refine g_goto C at_89 (q := 105) (by decide) (by decide) ?_
        refine g_lstore C at_105 (L' := #[.val (.long base), .second, .val (.int gaps), .val (.int ops), .val (.int mode), .val (.int targ), .val (.int flag), .val (.long a), .second, .val (.long b), .second, .val (.long c'), .second, .val (.int oA), .val (.int oB), .val (.int oC), .val (.int mm), .val (.int ts), .val (.long a), .second, .unset, .unset, .unset, .unset, .unset, .unset, .unset, .unset, .unset, .unset, .unset, .unset, .unset, .unset, .unset, .unset, .unset]) rfl (q := 107) rfl ?_
        refine g_iload C at_107 (v := ts) rfl (q := 109) rfl ?_
        refine g_if_ne C at_109 (q' := 117) (q := 112) (by decide) (by decide) rfl (fun hy => absurd s0' hy) (fun hn => ?_)
        refine g_iload C at_112 (v := oA) rfl (q := 114) rfl ?_
        refine g_goto C at_114 (q := 130) (by decide) (by decide) ?_
        refine g_istore C at_130 (L' := #[.val (.long base), .second, .val (.int gaps), .val (.int ops), .val (.int mode), .val (.int targ), .val (.int flag), .val (.long a), .second, .val (.long b), .second, .val (.long c'), .second, .val (.int oA), .val (.int oB), .val (.int oC), .val (.int mm), .val (.int ts), .val (.long a), .second, .val (.int oA), .unset, .unset, .unset, .unset, .unset, .unset, .unset, .unset, .unset, .unset, .unset, .unset, .unset, .unset, .unset, .unset]) rfl (q := 132) rfl ?_
        exact J2 (a, oA) (Or.inl ⟨rfl, rfl⟩)
  ·
    refine g_if_le C at_5 (q' := 16) (q := 8) (by decide) (by decide) rfl (fun hle => ?_) (fun hgt => ?_)
    ·
      refine g_lloadN C at_16 (v := base) rfl (q := 17) rfl ?_
      have q : ¬ (9223372036854775775 : Int64) < base := fun q => hle ((cmpL_gt _ _).mpr q)
      rw [Int64.lt_iff_toInt_lt] at q
      have e : (9223372036854775775 : Int64).toInt = 9223372036854775775 := rfl
      exact J _ (by omega)
    ·
      refine g_lloadN C at_8 (v := base) rfl (q := 9) rfl ?_
      refine g_ldc2Long C at_9 (wd100 hw) (q := 12) rfl ?_
      refine g_lsub C at_12 (q := 13) rfl ?_
      refine g_goto C at_13 (q := 17) (by decide) (by decide) ?_
      have q := (cmpL_gt _ _).mp hgt
      rw [Int64.lt_iff_toInt_lt] at q
      have e : (9223372036854775775 : Int64).toInt = 9223372036854775775 := rfl
      have e2 : (32 : Int64).toInt = 32 := rfl
      have e3 := Int64.toInt_lt base
      exact J _ (by rw [Int64.toInt_sub, e2, Int.bmod_def]; omega)
theorem eq_int' {t : Term} {n : Int32} {args : Array Value} {s : State} (h : (Cond.eq t (.int n)).before args s = true) : t.eval args s none [] s = some (.int n) := by
  have h := Cond.before_iff.mp h
  simp only [Cond.value, Term.int_eval] at h
  cases e : t.eval args s none [] s with
  | none => simp [e] at h
  | some v => cases v <;> simp [e] at h ⊢; exact h
theorem field_eval {t : Term} {C f d : String} {args : Array Value} {s : State} {a : Addr} (e : t.eval args s none [] s = some (.ref a)) : (Term.field t C f d).eval args s none [] s = s.fieldOf? a C f d := by
  simp [Term.eval, e]
set_option maxRecDepth 65536 in
set_option maxHeartbeats 40000000 in
theorem comes_1 {Post : Tables → Env → Array Value → State → Outcome → State → Prop} (hpost : ∀ tb e args s v u, (limb_1_1.after args s (.returned v) u = true ∧ limb_1_2.after args s (.returned v) u = true ∧ True) → FrameEnd s (.returned v) u (Jvm.fieldLocs frame_1_writes args s ++ Jvm.arrayLocs frame_1_arrays args s ++ Jvm.staticLocs frame_1_statics s) 24 384 → Post tb e args s (.returned v) u) :
    ArmFor flags0 classFile x code maxLocals ret World_1 tables_1 room_1 Calls_1 rest_1 Pre_1 Post := by
  intro l hfl _ _ p e ha hc hk s m args below hf hA hF happ hP
  obtain ⟨hcalls, hrest, hpre⟩ := hP
  obtain ⟨-, -, -, hnamed, -, -, -, hat⟩ := (Spec.applies_iff hf).mp happ
  obtain ⟨hg, hn⟩ := and_e (Cond.before_iff.mp (show (Jvm.Cond.and given_1 narrow_1).before args s = true from hpre))
  obtain ⟨hcount, hg0⟩ := and_e hg
  obtain ⟨ha0, hg1⟩ := and_e hg0
  obtain ⟨ha1, hg2⟩ := and_e hg1
  obtain ⟨ha2, hg3⟩ := and_e hg2
  obtain ⟨ha3, hg4⟩ := and_e hg3
  obtain ⟨ha4, hg5⟩ := and_e hg4
  have ha5 := hg5
  obtain ⟨w0, w1, w2, w3, w4, w5, rfl⟩ : ∃ w0 w1 w2 w3 w4 w5 : Value, args = #[w0, w1, w2, w3, w4, w5] := by
    have hs : args.size = 6 := by simpa [Cond.value, given_1] using hcount
    obtain ⟨L⟩ := args
    match L, hs with
    | [w0, w1, w2, w3, w4, w5], _ => exact ⟨w0, w1, w2, w3, w4, w5, rfl⟩
  have hw := fun d (hd : d ∈ tables_1) => atoms_spec (ws := Jvm.Cond.code x code maxLocals ret :: tables_1) hat d (List.mem_cons_of_mem _ hd)
  have hfit : Fit s := fun {y c} hc i hi => by
    obtain ⟨ha, rfl⟩ := Array.getElem?_eq_some_iff.mp hc
    have q := List.all_eq_true.mp ((Array.all_eq_true_iff_forall_mem.mp hF) _ (Array.getElem_mem ha)) i (List.mem_range.mpr hi)
    simpa [Array.getElem?_eq_getElem hi] using q
  obtain ⟨x0, ea0⟩ := isL_v ha0
  obtain rfl : w0 = (.long x0) := Option.some.inj ea0
  obtain ⟨x1, ea1⟩ := is_v ha1
  obtain rfl : w1 = (.int x1) := Option.some.inj ea1
  obtain ⟨x2, ea2⟩ := is_v ha2
  obtain rfl : w2 = (.int x2) := Option.some.inj ea2
  obtain ⟨x3, ea3⟩ := is_v ha3
  obtain rfl : w3 = (.int x3) := Option.some.inj ea3
  obtain ⟨x4, ea4⟩ := is_v ha4
  obtain rfl : w4 = (.int x4) := Option.some.inj ea4
  obtain ⟨x5, ea5⟩ := is_v ha5
  obtain rfl : w5 = (.int x5) := Option.some.inj ea5
  obtain ⟨g0, hn0⟩ := and_e hn
  obtain ⟨g1, hn1⟩ := and_e hn0
  obtain ⟨g2, hn2⟩ := and_e hn1
  obtain ⟨g3, hn3⟩ := and_e hn2
  obtain ⟨g4, hn4⟩ := and_e hn3
  obtain ⟨g5, hn5⟩ := and_e hn4
  obtain ⟨g6, hn6⟩ := and_e hn5
  have g7 := hn6
  obtain ⟨kCREATE, -, -, -, eCREATE, -⟩ := Cond.exactly_spec (Cond.before_iff.mpr g0)
  have SCREATE := Sta.start eCREATE (Or.inr ⟨(wd27 hw), (wd28 hw)⟩)
  obtain ⟨kUPDATE, -, -, -, eUPDATE, -⟩ := Cond.exactly_spec (Cond.before_iff.mpr g1)
  have SUPDATE := Sta.start eUPDATE (Or.inr ⟨(wd27 hw), (wd49 hw)⟩)
  obtain ⟨kDELETE, -, -, -, eDELETE, -⟩ := Cond.exactly_spec (Cond.before_iff.mpr g4)
  have SDELETE := Sta.start eDELETE (Or.inr ⟨(wd27 hw), (wd51 hw)⟩)
  obtain ⟨kASSIGN, -, -, -, eASSIGN, -⟩ := Cond.exactly_spec (Cond.before_iff.mpr g6)
  have SASSIGN := Sta.start eASSIGN (Or.inr ⟨(wd27 hw), (wd90 hw)⟩)
  have oUPDATE := eq_int' (Cond.before_iff.mpr g2)
  rw [field_eval eUPDATE] at oUPDATE
  have oCREATE := eq_int' (Cond.before_iff.mpr g3)
  rw [field_eval eCREATE] at oCREATE
  have oDELETE := eq_int' (Cond.before_iff.mpr g5)
  rw [field_eval eDELETE] at oDELETE
  have oASSIGN := eq_int' (Cond.before_iff.mpr g7)
  rw [field_eval eASSIGN] at oASSIGN
  have nUPDATECREATE : ¬ kUPDATE = kCREATE := fun q => by rw [q] at oUPDATE; rw [oUPDATE] at oCREATE; cases oCREATE
  have nDELETECREATE : ¬ kDELETE = kCREATE := fun q => by rw [q] at oDELETE; rw [oDELETE] at oCREATE; cases oCREATE
  have nASSIGNCREATE : ¬ kASSIGN = kCREATE := fun q => by rw [q] at oASSIGN; rw [oASSIGN] at oCREATE; cases oCREATE
  have nUPDATEDELETE : ¬ kUPDATE = kDELETE := fun q => by rw [q] at oUPDATE; rw [oUPDATE] at oDELETE; cases oDELETE
  have nASSIGNDELETE : ¬ kASSIGN = kDELETE := fun q => by rw [q] at oASSIGN; rw [oASSIGN] at oDELETE; cases oDELETE
  obtain ⟨n, o, h1, h2, h3, _, L, rfl, ⟨rfl, N⟩, hq⟩ := c_law l s _ kCREATE kUPDATE kDELETE kASSIGN ⟨hw, SCREATE, SUPDATE, SDELETE, SASSIGN, nUPDATECREATE, nDELETECREATE, nASSIGNCREATE, nUPDATEDELETE, nASSIGNDELETE⟩ x0 x1 x2 x3 x4 x5 s.heap s.heap.size (Nat.le_refl _) (Nat.le_refl _) (Ext.rfl' _) p e ha hc hk s m _ below hf (app_less hf ((Spec.applies_iff_loose hf).mp happ).1) ⟨rfl, State.Warmed39.refl s, rfl⟩ trivial
  refine ⟨n, _, h1, h2, h3, hpost _ _ _ _ _ _ ⟨Cond.after_iff.mpr rfl, Cond.after_iff.mpr (eq_i res_at (Term.int_eval (1)) rfl), trivial⟩ ⟨hq.1, hq.2.1, (hq.2.2.sift fun y hy => Or.inr (N y hy)).mono (by decide) (by decide)⟩⟩
theorem main_1_1 : Claimed_1_1 := comes_1 fun _ _ _ _ _ _ h hF => ⟨h.1, hF⟩
theorem main_1_2 : Claimed_1_2 := comes_1 fun _ _ _ _ _ _ h hF => ⟨h.2.1, hF⟩
end Jvm.Pilot.@@N@@
namespace Jvm.Pilot.@@N@@
open Jvm Jvm.ClassFile Sem Op Lib Jvm.Free Jvm.Stand Jvm.Pilot.@@N@@.Jvm.D
/-! MADE BY PROGRAM (witnessworld.py) out of the Statement's table words and the real class files: 18 classes; the members and pool entries that the words name. The judged class is class 1, her method 4. -/
namespace start1
open Jvm.ClassFile
def u (s : String) : CpInfo := .utf8 (stringToUtf16 s)
/-- a pool by its gaps: so many unusable entries, then the entry; so many at the end -/
def gap : Nat → List CpInfo → List CpInfo
  | 0, r => r
  | n + 1, r => .unusable :: gap n r
def poolList (es : List (Nat × CpInfo)) (last : Nat) : List CpInfo := es.foldr (fun e r => gap e.1 (e.2 :: r)) (gap last [])
def pool (es : List (Nat × CpInfo)) (last : Nat) : Array CpInfo := ⟨poolList es last⟩
def fileOf (pool : Array CpInfo) (this : Nat) (attrs : Array Attribute := #[]) (ms : Array MethodInfo := #[]) (fl : Nat := 33) (sup : Nat := 0) (ifs : Array Nat := #[]) (fds : Array FieldInfo := #[]) : ClassFile where
  minorVersion := 0
  majorVersion := 65
  constantPool := pool
  accessFlags := fl
  thisClass := this
  superClass := sup
  interfaces := ifs
  fields := fds
  methods := ms
  attributes := attrs
def plain (name : String) (sup : Option ClassId) : Class where
  name := name
  kind := .ordinary
  loader := none
  accessFlags := 33
  super := sup
  interfaces := #[]
  cf := none
  fields := #[]
  methods := #[]
  instanceTypes := #[]
  staticTypes := #[]
  resolved := #[]
  callSites := []
  init := .initialized
  statics := none
  mirror := none

def pool0 : Array CpInfo := pool [(5, u "<init>"), (0, u "()V"), (1, .class_ 10), (1, u "java/lang/Object"), (85, u "clone"), (0, u "()Ljava/lang/Object;")] 26

def k0c0 : Code := { maxStack := 0, maxLocals := 1, code := object_method_1_code, exceptionTable := #[], attributes := #[] }
def k0m0 : Method := { name := "<init>", desc := "()V", sig := { parameters := [], returnType := none }, accessFlags := 1, code := some k0c0 }
def k0m1 : Method := { name := "clone", desc := "()Ljava/lang/Object;", sig := { parameters := [], returnType := some (.object "java/lang/Object") }, accessFlags := 260, code := none }
/-- java/lang/Object -/
def k0 : Class := { plain "java/lang/Object" none with
  accessFlags := 33
  interfaces := #[]
  cf := some (fileOf pool0 8 #[] #[{ accessFlags := 1, nameIndex := 5, descriptorIndex := 6, attributes := #[] }, { accessFlags := 260, nameIndex := 96, descriptorIndex := 97, attributes := #[] }] 33 0 #[] #[])
  fields := #[]
  methods := #[k0m0, k0m1]
  instanceTypes := #[]
  staticTypes := #[]
  resolved := Array.replicate 124 none
  statics := none }

def pool1 : Array CpInfo := pool [(2, .class_ 4), (0, .nameAndType 5 6), (0, u "java/lang/Object"), (0, u "<init>"), (0, u "()V"), (0, .fieldref 8 9), (0, .class_ 10), (0, .nameAndType 11 12), (0, u "com/example/nuthatch/nuthatch/store/ChangeRecord$Kind"), (0, u "UPDATE"), (0, u "Lcom/example/nuthatch/nuthatch/store/ChangeRecord$Kind;"), (0, .fieldref 8 14), (0, .nameAndType 15 12), (0, u "ASSIGN"), (0, .fieldref 8 17), (0, .nameAndType 18 12), (0, u "DELETE"), (0, .fieldref 8 20), (0, .nameAndType 21 12), (0, u "CREATE"), (0, .methodref 23 24), (0, .class_ 25), (0, .nameAndType 26 27), (0, u "com/example/nuthatch/nuthatch/store/JournalTally"), (0, u "add"), (0, u "(Lcom/example/nuthatch/nuthatch/store/ChangeRecord$Kind;J)V"), (0, .methodref 29 30), (0, .class_ 31), (0, .nameAndType 32 33), (0, u "com/example/nuthatch/nuthatch/store/JournalTallyDropPassingPinLaw"), (0, u "kindOf"), (0, u "(I)Lcom/example/nuthatch/nuthatch/store/ChangeRecord$Kind;"), (2, .long 9223372036854775775), (1, .long 32), (1, .integer 2147483647), (0, .methodref 29 42), (0, .nameAndType 43 44), (0, u "live"), (0, u "(I)I"), (0, .methodref 23 3), (0, .methodref 29 47), (0, .nameAndType 48 49), (0, u "createWithOp"), (0, u "(Lcom/example/nuthatch/nuthatch/store/JournalTally;JI)V"), (0, .methodref 23 51), (0, .nameAndType 52 6), (0, u "dropPassing"), (0, .methodref 23 54), (0, .nameAndType 55 56), (0, u "writes"), (0, u "()I"), (0, .methodref 23 58), (0, .nameAndType 59 60), (0, u "passing"), (0, u "()[J"), (3, u "law"), (0, u "(JIIIII)Z")] 8

def k1m0 : Method := { name := "<init>", desc := "()V", sig := { parameters := [], returnType := none }, accessFlags := 1, code := none }
def k1c1 : Code := { maxStack := 2, maxLocals := 1, code := method_2_code, exceptionTable := #[], attributes := #[] }
def k1m1 : Method := { name := "kindOf", desc := "(I)Lcom/example/nuthatch/nuthatch/store/ChangeRecord$Kind;", sig := { parameters := [.int], returnType := some (.object "com/example/nuthatch/nuthatch/store/ChangeRecord$Kind") }, accessFlags := 10, code := some k1c1 }
def k1c2 : Code := { maxStack := 4, maxLocals := 4, code := method_3_code, exceptionTable := #[], attributes := #[] }
def k1m2 : Method := { name := "createWithOp", desc := "(Lcom/example/nuthatch/nuthatch/store/JournalTally;JI)V", sig := { parameters := [(.object "com/example/nuthatch/nuthatch/store/JournalTally"), .long, .int], returnType := none }, accessFlags := 10, code := some k1c2 }
def k1c3 : Code := { maxStack := 2, maxLocals := 1, code := method_4_code, exceptionTable := #[], attributes := #[] }
def k1m3 : Method := { name := "live", desc := "(I)I", sig := { parameters := [.int], returnType := some .int }, accessFlags := 10, code := some k1c3 }
def k1c4 : Code := { maxStack := 4, maxLocals := 37, code := code, exceptionTable := #[], attributes := #[] }
def k1m4 : Method := { name := "law", desc := "(JIIIII)Z", sig := { parameters := [.long, .int, .int, .int, .int, .int], returnType := some .boolean }, accessFlags := 9, code := some k1c4 }
/-- com/example/nuthatch/nuthatch/store/JournalTallyDropPassingPinLaw -/
def k1 : Class := { plain "com/example/nuthatch/nuthatch/store/JournalTallyDropPassingPinLaw" (some 0) with
  accessFlags := 49
  interfaces := #[]
  cf := some (fileOf pool1 29 #[] #[{ accessFlags := 1, nameIndex := 5, descriptorIndex := 6, attributes := #[] }, { accessFlags := 10, nameIndex := 32, descriptorIndex := 33, attributes := #[] }, { accessFlags := 10, nameIndex := 48, descriptorIndex := 49, attributes := #[] }, { accessFlags := 10, nameIndex := 43, descriptorIndex := 44, attributes := #[] }, { accessFlags := 9, nameIndex := 64, descriptorIndex := 65, attributes := #[] }] 49 2 #[] #[])
  fields := #[]
  methods := #[k1m0, k1m1, k1m2, k1m3, k1m4]
  instanceTypes := #[]
  staticTypes := #[]
  resolved := Array.replicate 74 none
  statics := none }

def pool2 : Array CpInfo := pool [(1, .methodref 2 3), (0, .class_ 4), (0, .nameAndType 5 6), (0, u "java/lang/Object"), (0, u "<init>"), (0, u "()V"), (0, .fieldref 8 9), (0, .class_ 10), (0, .nameAndType 11 12), (0, u "com/example/nuthatch/nuthatch/store/JournalTally"), (0, u "created"), (0, u "[J"), (0, .fieldref 8 14), (0, .nameAndType 15 16), (0, u "changes"), (0, u "[I"), (0, .fieldref 8 18), (0, .nameAndType 19 20), (0, u "ordered"), (0, u "Z"), (0, .methodref 8 22), (0, .nameAndType 23 24), (0, u "creation"), (0, u "(J)I"), (0, .fieldref 26 27), (0, .class_ 28), (0, .nameAndType 29 30), (0, u "com/example/nuthatch/nuthatch/store/ChangeRecord$Kind"), (0, u "CREATE"), (0, u "Lcom/example/nuthatch/nuthatch/store/ChangeRecord$Kind;"), (0, .fieldref 8 32), (0, .nameAndType 33 34), (0, u "creates"), (0, u "I"), (0, .methodref 36 37), (0, .class_ 38), (0, .nameAndType 39 40), (0, u "java/util/Arrays"), (0, u "copyOf"), (0, u "([JI)[J"), (3, .fieldref 8 45), (0, .nameAndType 46 34), (0, u "writes"), (0, .fieldref 26 48), (0, .nameAndType 49 30), (0, u "DELETE"), (0, .fieldref 8 51), (0, .nameAndType 52 34), (0, u "count"), (0, .methodref 36 54), (0, .nameAndType 55 56), (0, u "binarySearch"), (0, u "([JIIJ)I"), (2, u "add"), (0, u "(Lcom/example/nuthatch/nuthatch/store/ChangeRecord$Kind;J)V"), (1, u "()I"), (0, u "passing"), (0, u "()[J"), (1, u "dropPassing")] 7

def k2c0 : Code := { maxStack := 2, maxLocals := 1, code := prog_42_method_1_code, exceptionTable := #[], attributes := #[] }
def k2m0 : Method := { name := "<init>", desc := "()V", sig := { parameters := [], returnType := none }, accessFlags := 0, code := some k2c0 }
def k2c1 : Code := { maxStack := 7, maxLocals := 5, code := prog_42_method_2_code, exceptionTable := #[], attributes := #[] }
def k2m1 : Method := { name := "add", desc := "(Lcom/example/nuthatch/nuthatch/store/ChangeRecord$Kind;J)V", sig := { parameters := [(.object "com/example/nuthatch/nuthatch/store/ChangeRecord$Kind"), .long], returnType := none }, accessFlags := 0, code := some k2c1 }
def k2c2 : Code := { maxStack := 1, maxLocals := 1, code := prog_42_method_3_code, exceptionTable := #[], attributes := #[] }
def k2m2 : Method := { name := "writes", desc := "()I", sig := { parameters := [], returnType := some .int }, accessFlags := 0, code := some k2c2 }
def k2c3 : Code := { maxStack := 4, maxLocals := 4, code := prog_42_method_4_code, exceptionTable := #[], attributes := #[] }
def k2m3 : Method := { name := "passing", desc := "()[J", sig := { parameters := [], returnType := some (.array .long) }, accessFlags := 0, code := some k2c3 }
def k2c4 : Code := { maxStack := 4, maxLocals := 3, code := prog_42_method_5_code, exceptionTable := #[], attributes := #[] }
def k2m4 : Method := { name := "dropPassing", desc := "()V", sig := { parameters := [], returnType := none }, accessFlags := 0, code := some k2c4 }
def k2c5 : Code := { maxStack := 5, maxLocals := 7, code := prog_42_method_6_code, exceptionTable := #[], attributes := #[] }
def k2m5 : Method := { name := "creation", desc := "(J)I", sig := { parameters := [.long], returnType := some .int }, accessFlags := 2, code := some k2c5 }
/-- com/example/nuthatch/nuthatch/store/JournalTally -/
def k2 : Class := { plain "com/example/nuthatch/nuthatch/store/JournalTally" (some 0) with
  accessFlags := 48
  interfaces := #[]
  cf := some (fileOf pool2 8 #[] #[{ accessFlags := 0, nameIndex := 5, descriptorIndex := 6, attributes := #[] }, { accessFlags := 0, nameIndex := 59, descriptorIndex := 60, attributes := #[] }, { accessFlags := 0, nameIndex := 46, descriptorIndex := 62, attributes := #[] }, { accessFlags := 0, nameIndex := 63, descriptorIndex := 64, attributes := #[] }, { accessFlags := 0, nameIndex := 66, descriptorIndex := 6, attributes := #[] }, { accessFlags := 2, nameIndex := 23, descriptorIndex := 24, attributes := #[] }] 48 2 #[] #[{ accessFlags := 2, nameIndex := 11, descriptorIndex := 12, attributes := #[] }, { accessFlags := 2, nameIndex := 15, descriptorIndex := 16, attributes := #[] }, { accessFlags := 2, nameIndex := 33, descriptorIndex := 34, attributes := #[] }, { accessFlags := 2, nameIndex := 52, descriptorIndex := 34, attributes := #[] }, { accessFlags := 2, nameIndex := 46, descriptorIndex := 34, attributes := #[] }, { accessFlags := 2, nameIndex := 19, descriptorIndex := 20, attributes := #[] }])
  fields := #[{ name := "created", type := (.array .long), accessFlags := 2, slot := 0, constantValue := 0 }, { name := "changes", type := (.array .int), accessFlags := 2, slot := 1, constantValue := 0 }, { name := "creates", type := .int, accessFlags := 2, slot := 2, constantValue := 0 }, { name := "count", type := .int, accessFlags := 2, slot := 3, constantValue := 0 }, { name := "writes", type := .int, accessFlags := 2, slot := 4, constantValue := 0 }, { name := "ordered", type := .boolean, accessFlags := 2, slot := 5, constantValue := 0 }]
  methods := #[k2m0, k2m1, k2m2, k2m3, k2m4, k2m5]
  instanceTypes := #[(.array .long), (.array .int), .int, .int, .int, .boolean]
  staticTypes := #[]
  resolved := Array.replicate 74 none
  statics := none }

def pool3 : Array CpInfo := pool [(1, .class_ 2), (0, u "java/lang/constant/Constable"), (0, .class_ 4), (0, u "java/lang/Object")] 6

/-- java/lang/constant/Constable -/
def k3 : Class := { plain "java/lang/constant/Constable" (some 0) with
  accessFlags := 1537
  interfaces := #[]
  cf := some (fileOf pool3 1 #[] #[] 1537 3 #[] #[])
  fields := #[]
  methods := #[]
  instanceTypes := #[]
  staticTypes := #[]
  resolved := Array.replicate 11 none
  statics := none }

def pool4 : Array CpInfo := pool [(1, .class_ 2), (0, u "java/lang/Comparable"), (0, .class_ 4), (0, u "java/lang/Object")] 7

/-- java/lang/Comparable -/
def k4 : Class := { plain "java/lang/Comparable" (some 0) with
  accessFlags := 1537
  interfaces := #[]
  cf := some (fileOf pool4 1 #[] #[] 1537 3 #[] #[])
  fields := #[]
  methods := #[]
  instanceTypes := #[]
  staticTypes := #[]
  resolved := Array.replicate 12 none
  statics := none }

def pool5 : Array CpInfo := pool [(1, .class_ 2), (0, u "java/io/Serializable"), (0, .class_ 4), (0, u "java/lang/Object")] 2

/-- java/io/Serializable -/
def k5 : Class := { plain "java/io/Serializable" (some 0) with
  accessFlags := 1537
  interfaces := #[]
  cf := some (fileOf pool5 1 #[] #[] 1537 3 #[] #[])
  fields := #[]
  methods := #[]
  instanceTypes := #[]
  staticTypes := #[]
  resolved := Array.replicate 7 none
  statics := none }

def pool6 : Array CpInfo := pool [(2, .class_ 4), (1, u "java/lang/Enum"), (0, u "name"), (0, u "Ljava/lang/String;"), (2, u "ordinal"), (0, u "I"), (1, .class_ 14), (1, u "java/lang/Object"), (4, u "hash"), (86, .class_ 108), (1, u "java/lang/Enum$EnumDesc"), (2, .class_ 112), (0, u "java/lang/constant/Constable"), (0, .class_ 114), (0, u "java/lang/Comparable"), (0, .class_ 116), (0, u "java/io/Serializable")] 87

/-- java/lang/Enum -/
def k6 : Class := { plain "java/lang/Enum" (some 0) with
  accessFlags := 1057
  interfaces := #[3, 4, 5]
  cf := some (fileOf pool6 2 #[.nestMembers #[106]] #[] 1057 12 #[111, 113, 115] #[{ accessFlags := 18, nameIndex := 5, descriptorIndex := 6, attributes := #[] }, { accessFlags := 18, nameIndex := 9, descriptorIndex := 10, attributes := #[] }, { accessFlags := 2, nameIndex := 19, descriptorIndex := 10, attributes := #[] }])
  fields := #[{ name := "name", type := (.object "java/lang/String"), accessFlags := 18, slot := 0, constantValue := 0 }, { name := "ordinal", type := .int, accessFlags := 18, slot := 1, constantValue := 0 }, { name := "hash", type := .int, accessFlags := 2, slot := 2, constantValue := 0 }]
  methods := #[]
  instanceTypes := #[(.object "java/lang/String"), .int, .int]
  staticTypes := #[]
  resolved := Array.replicate 204 none
  statics := none }

def pool7 : Array CpInfo := pool [(1, .class_ 2), (0, u "com/example/nuthatch/nuthatch/store/ChangeRecord$Kind"), (2, u "CREATE"), (0, u "Lcom/example/nuthatch/nuthatch/store/ChangeRecord$Kind;"), (2, u "UPDATE"), (2, u "DELETE"), (2, u "ASSIGN"), (2, u "$VALUES"), (0, u "[Lcom/example/nuthatch/nuthatch/store/ChangeRecord$Kind;"), (6, .class_ 28), (1, u "java/lang/Enum"), (27, .class_ 57), (0, u "com/example/nuthatch/nuthatch/store/ChangeRecord")] 2

/-- com/example/nuthatch/nuthatch/store/ChangeRecord$Kind -/
def k7 : Class := { plain "com/example/nuthatch/nuthatch/store/ChangeRecord$Kind" (some 6) with
  accessFlags := 16432
  interfaces := #[]
  cf := some (fileOf pool7 1 #[.nestHost 56] #[] 16432 26 #[] #[{ accessFlags := 16409, nameIndex := 5, descriptorIndex := 6, attributes := #[] }, { accessFlags := 16409, nameIndex := 9, descriptorIndex := 6, attributes := #[] }, { accessFlags := 16409, nameIndex := 12, descriptorIndex := 6, attributes := #[] }, { accessFlags := 16409, nameIndex := 15, descriptorIndex := 6, attributes := #[] }, { accessFlags := 4122, nameIndex := 18, descriptorIndex := 19, attributes := #[] }])
  fields := #[{ name := "CREATE", type := (.object "com/example/nuthatch/nuthatch/store/ChangeRecord$Kind"), accessFlags := 16409, slot := 0, constantValue := 0 }, { name := "UPDATE", type := (.object "com/example/nuthatch/nuthatch/store/ChangeRecord$Kind"), accessFlags := 16409, slot := 1, constantValue := 0 }, { name := "DELETE", type := (.object "com/example/nuthatch/nuthatch/store/ChangeRecord$Kind"), accessFlags := 16409, slot := 2, constantValue := 0 }, { name := "ASSIGN", type := (.object "com/example/nuthatch/nuthatch/store/ChangeRecord$Kind"), accessFlags := 16409, slot := 3, constantValue := 0 }, { name := "$VALUES", type := (.array (.object "com/example/nuthatch/nuthatch/store/ChangeRecord$Kind")), accessFlags := 4122, slot := 4, constantValue := 0 }]
  methods := #[]
  instanceTypes := #[(.object "java/lang/String"), .int, .int]
  staticTypes := #[(.object "com/example/nuthatch/nuthatch/store/ChangeRecord$Kind"), (.object "com/example/nuthatch/nuthatch/store/ChangeRecord$Kind"), (.object "com/example/nuthatch/nuthatch/store/ChangeRecord$Kind"), (.object "com/example/nuthatch/nuthatch/store/ChangeRecord$Kind"), (.array (.object "com/example/nuthatch/nuthatch/store/ChangeRecord$Kind"))]
  resolved := Array.replicate 60 none
  statics := some 0 }

def pool8 : Array CpInfo := pool [(2, .class_ 4), (1, u "java/lang/Object"), (0, u "<init>"), (0, u "()V"), (6, .methodref 14 15), (0, .class_ 16), (0, .nameAndType 17 18), (0, u "java/util/Arrays"), (0, u "rangeCheck"), (0, u "(III)V"), (55, .class_ 76), (1, u "java/util/Arrays$NaturalOrder"), (32, u "()Ljava/lang/Object;"), (3, .class_ 115), (1, u "java/util/Arrays$LegacyMergeSort"), (1, u "Z"), (10, .nameAndType 129 109), (0, u "clone"), (20, .methodref 151 152), (0, .class_ 153), (0, .nameAndType 154 155), (0, u "java/lang/System"), (0, u "arraycopy"), (0, u "(Ljava/lang/Object;ILjava/lang/Object;II)V"), (49, .methodref 14 206), (0, .nameAndType 207 208), (0, u "binarySearch0"), (0, u "([JIIJ)I"), (93, u "copyOf"), (1, .methodref 305 306), (0, .class_ 307), (0, .nameAndType 308 309), (0, u "java/lang/Math"), (0, u "min"), (0, u "(II)I"), (9, .methodref 320 128), (0, .class_ 321), (0, u "[J"), (53, .class_ 376), (0, u "java/util/Arrays$ArrayList"), (68, u "$assertionsDisabled"), (269, u "MIN_ARRAY_SORT_GRAN"), (0, u "I"), (2, u "INSERTIONSORT_THRESHOLD"), (74, u "binarySearch"), (77, u "([JI)[J"), (102, .class_ 976), (0, u "java/util/Arrays$ArrayItr")] 52

def k8m0 : Method := { name := "<init>", desc := "()V", sig := { parameters := [], returnType := none }, accessFlags := 2, code := none }
def k8c1 : Code := { maxStack := 4, maxLocals := 3, code := jdk_65_method_30_code, exceptionTable := #[], attributes := #[] }
def k8m1 : Method := { name := "rangeCheck", desc := "(III)V", sig := { parameters := [.int, .int, .int], returnType := none }, accessFlags := 8, code := some k8c1 }
def k8c2 : Code := { maxStack := 5, maxLocals := 5, code := jdk_65_method_55_code, exceptionTable := #[], attributes := #[] }
def k8m2 : Method := { name := "binarySearch", desc := "([JIIJ)I", sig := { parameters := [(.array .long), .int, .int, .long], returnType := some .int }, accessFlags := 9, code := some k8c2 }
def k8c3 : Code := { maxStack := 4, maxLocals := 10, code := jdk_65_method_56_code, exceptionTable := #[], attributes := #[] }
def k8m3 : Method := { name := "binarySearch0", desc := "([JIIJ)I", sig := { parameters := [(.array .long), .int, .int, .long], returnType := some .int }, accessFlags := 10, code := some k8c3 }
def k8c4 : Code := { maxStack := 6, maxLocals := 3, code := jdk_65_method_124_code, exceptionTable := #[], attributes := #[] }
def k8m4 : Method := { name := "copyOf", desc := "([JI)[J", sig := { parameters := [(.array .long), .int], returnType := some (.array .long) }, accessFlags := 9, code := some k8c4 }
/-- java/util/Arrays -/
def k8 : Class := { plain "java/util/Arrays" (some 0) with
  accessFlags := 49
  interfaces := #[]
  cf := some (fileOf pool8 14 #[.nestMembers #[975, 375, 113, 74]] #[{ accessFlags := 2, nameIndex := 5, descriptorIndex := 6, attributes := #[] }, { accessFlags := 8, nameIndex := 17, descriptorIndex := 18, attributes := #[] }, { accessFlags := 9, nameIndex := 794, descriptorIndex := 208, attributes := #[] }, { accessFlags := 10, nameIndex := 207, descriptorIndex := 208, attributes := #[] }, { accessFlags := 9, nameIndex := 302, descriptorIndex := 872, attributes := #[] }] 49 2 #[] #[{ accessFlags := 26, nameIndex := 715, descriptorIndex := 716, attributes := #[] }, { accessFlags := 26, nameIndex := 719, descriptorIndex := 716, attributes := #[] }, { accessFlags := 4120, nameIndex := 445, descriptorIndex := 117, attributes := #[] }])
  fields := #[{ name := "MIN_ARRAY_SORT_GRAN", type := .int, accessFlags := 26, slot := 0, constantValue := 0 }, { name := "INSERTIONSORT_THRESHOLD", type := .int, accessFlags := 26, slot := 1, constantValue := 0 }, { name := "$assertionsDisabled", type := .boolean, accessFlags := 4120, slot := 2, constantValue := 0 }]
  methods := #[k8m0, k8m1, k8m2, k8m3, k8m4]
  instanceTypes := #[]
  staticTypes := #[.int, .int, .boolean]
  resolved := Array.replicate 1029 none
  statics := none }

def pool9 : Array CpInfo := pool [(1, .class_ 2), (0, u "java/lang/Math"), (1, .class_ 6), (1, u "java/lang/Object"), (0, u "<init>"), (0, u "()V"), (89, .class_ 100), (1, u "java/lang/Math$RandomNumberGeneratorHolder"), (71, u "negativeZeroFloatBits"), (0, u "J"), (2, u "negativeZeroDoubleBits"), (24, u "min"), (43, u "$assertionsDisabled"), (0, u "Z"), (88, u "(II)I"), (2, u "twoToTheDoubleScaleDown"), (0, u "D"), (4, u "twoToTheDoubleScaleUp"), (9, u "E"), (3, u "PI"), (2, u "TAU"), (2, u "DEGREES_TO_RADIANS"), (0, u "RADIANS_TO_DEGREES")] 94

def k9m0 : Method := { name := "<init>", desc := "()V", sig := { parameters := [], returnType := none }, accessFlags := 2, code := none }
def k9c1 : Code := { maxStack := 2, maxLocals := 2, code := jdk_29_method_69_code, exceptionTable := #[], attributes := #[] }
def k9m1 : Method := { name := "min", desc := "(II)I", sig := { parameters := [.int, .int], returnType := some .int }, accessFlags := 9, code := some k9c1 }
/-- java/lang/Math -/
def k9 : Class := { plain "java/lang/Math" (some 0) with
  accessFlags := 49
  interfaces := #[]
  cf := some (fileOf pool9 1 #[.nestMembers #[98]] #[{ accessFlags := 2, nameIndex := 7, descriptorIndex := 8, attributes := #[] }, { accessFlags := 9, nameIndex := 201, descriptorIndex := 335, attributes := #[] }] 49 4 #[] #[{ accessFlags := 25, nameIndex := 354, descriptorIndex := 339, attributes := #[] }, { accessFlags := 25, nameIndex := 358, descriptorIndex := 339, attributes := #[] }, { accessFlags := 25, nameIndex := 361, descriptorIndex := 339, attributes := #[] }, { accessFlags := 26, nameIndex := 364, descriptorIndex := 339, attributes := #[] }, { accessFlags := 26, nameIndex := 365, descriptorIndex := 339, attributes := #[] }, { accessFlags := 26, nameIndex := 172, descriptorIndex := 173, attributes := #[] }, { accessFlags := 26, nameIndex := 176, descriptorIndex := 173, attributes := #[] }, { accessFlags := 8, nameIndex := 344, descriptorIndex := 339, attributes := #[] }, { accessFlags := 8, nameIndex := 338, descriptorIndex := 339, attributes := #[] }, { accessFlags := 4120, nameIndex := 245, descriptorIndex := 246, attributes := #[] }])
  fields := #[{ name := "E", type := .double, accessFlags := 25, slot := 0, constantValue := 0 }, { name := "PI", type := .double, accessFlags := 25, slot := 1, constantValue := 0 }, { name := "TAU", type := .double, accessFlags := 25, slot := 2, constantValue := 0 }, { name := "DEGREES_TO_RADIANS", type := .double, accessFlags := 26, slot := 3, constantValue := 0 }, { name := "RADIANS_TO_DEGREES", type := .double, accessFlags := 26, slot := 4, constantValue := 0 }, { name := "negativeZeroFloatBits", type := .long, accessFlags := 26, slot := 5, constantValue := 0 }, { name := "negativeZeroDoubleBits", type := .long, accessFlags := 26, slot := 6, constantValue := 0 }, { name := "twoToTheDoubleScaleUp", type := .double, accessFlags := 8, slot := 7, constantValue := 0 }, { name := "twoToTheDoubleScaleDown", type := .double, accessFlags := 8, slot := 8, constantValue := 0 }, { name := "$assertionsDisabled", type := .boolean, accessFlags := 4120, slot := 9, constantValue := 0 }]
  methods := #[k9m0, k9m1]
  instanceTypes := #[]
  staticTypes := #[.double, .double, .double, .double, .double, .long, .long, .double, .double, .boolean]
  resolved := Array.replicate 460 none
  statics := none }

def pool10 : Array CpInfo := pool [(2, .class_ 4), (1, u "java/lang/Object"), (0, u "<init>"), (0, u "()V"), (1, .class_ 10), (1, u "java/lang/System"), (0, u "allowSecurityManager"), (0, u "I"), (16, u "cons"), (0, u "Ljava/io/Console;"), (77, .class_ 110), (1, u "java/lang/System$CallersHolder"), (43, u "initialErrStream"), (0, u "Ljava/io/PrintStream;"), (19, u "security"), (0, u "Ljava/lang/SecurityManager;"), (31, .class_ 209), (0, u "java/lang/System$1"), (7, u "props"), (0, u "Ljava/util/Properties;"), (2, u "lineSeparator"), (0, u "Ljava/lang/String;"), (96, .class_ 321), (1, u "java/lang/System$LoggerFinder"), (5, .class_ 328), (0, u "java/lang/System$Logger"), (67, u "err"), (2, u "out"), (91, u "notSupportedJnuEncoding"), (15, u "in"), (17, u "initialIn"), (0, u "Ljava/io/InputStream;"), (35, u "bootLayer"), (0, u "Ljava/lang/ModuleLayer;"), (99, .class_ 664), (0, u "java/lang/System$2"), (9, u "NEVER"), (2, u "MAYBE"), (49, u "arraycopy"), (0, u "(Ljava/lang/Object;ILjava/lang/Object;II)V"), (72, .class_ 802), (0, u "java/lang/System$Logger$Level")] 31

def k10m0 : Method := { name := "<init>", desc := "()V", sig := { parameters := [], returnType := none }, accessFlags := 2, code := none }
def k10m1 : Method := { name := "arraycopy", desc := "(Ljava/lang/Object;ILjava/lang/Object;II)V", sig := { parameters := [(.object "java/lang/Object"), .int, (.object "java/lang/Object"), .int, .int], returnType := none }, accessFlags := 265, code := none }
/-- java/lang/System -/
def k10 : Class := { plain "java/lang/System" (some 0) with
  accessFlags := 49
  interfaces := #[]
  cf := some (fileOf pool10 8 #[.nestMembers #[319, 327, 801, 108, 663, 208]] #[{ accessFlags := 2, nameIndex := 5, descriptorIndex := 6, attributes := #[] }, { accessFlags := 265, nameIndex := 727, descriptorIndex := 728, attributes := #[] }] 49 2 #[] #[{ accessFlags := 25, nameIndex := 507, descriptorIndex := 526, attributes := #[] }, { accessFlags := 25, nameIndex := 399, descriptorIndex := 155, attributes := #[] }, { accessFlags := 25, nameIndex := 396, descriptorIndex := 155, attributes := #[] }, { accessFlags := 10, nameIndex := 525, descriptorIndex := 526, attributes := #[] }, { accessFlags := 26, nameIndex := 674, descriptorIndex := 12, attributes := #[] }, { accessFlags := 26, nameIndex := 677, descriptorIndex := 12, attributes := #[] }, { accessFlags := 10, nameIndex := 11, descriptorIndex := 12, attributes := #[] }, { accessFlags := 74, nameIndex := 175, descriptorIndex := 176, attributes := #[] }, { accessFlags := 10, nameIndex := 491, descriptorIndex := 222, attributes := #[] }, { accessFlags := 74, nameIndex := 29, descriptorIndex := 30, attributes := #[] }, { accessFlags := 74, nameIndex := 154, descriptorIndex := 155, attributes := #[] }, { accessFlags := 10, nameIndex := 217, descriptorIndex := 218, attributes := #[] }, { accessFlags := 10, nameIndex := 221, descriptorIndex := 222, attributes := #[] }, { accessFlags := 8, nameIndex := 562, descriptorIndex := 563, attributes := #[] }])
  fields := #[{ name := "in", type := (.object "java/io/InputStream"), accessFlags := 25, slot := 0, constantValue := 0 }, { name := "out", type := (.object "java/io/PrintStream"), accessFlags := 25, slot := 1, constantValue := 0 }, { name := "err", type := (.object "java/io/PrintStream"), accessFlags := 25, slot := 2, constantValue := 0 }, { name := "initialIn", type := (.object "java/io/InputStream"), accessFlags := 10, slot := 3, constantValue := 0 }, { name := "NEVER", type := .int, accessFlags := 26, slot := 4, constantValue := 0 }, { name := "MAYBE", type := .int, accessFlags := 26, slot := 5, constantValue := 0 }, { name := "allowSecurityManager", type := .int, accessFlags := 10, slot := 6, constantValue := 0 }, { name := "security", type := (.object "java/lang/SecurityManager"), accessFlags := 74, slot := 7, constantValue := 0 }, { name := "notSupportedJnuEncoding", type := (.object "java/lang/String"), accessFlags := 10, slot := 8, constantValue := 0 }, { name := "cons", type := (.object "java/io/Console"), accessFlags := 74, slot := 9, constantValue := 0 }, { name := "initialErrStream", type := (.object "java/io/PrintStream"), accessFlags := 74, slot := 10, constantValue := 0 }, { name := "props", type := (.object "java/util/Properties"), accessFlags := 10, slot := 11, constantValue := 0 }, { name := "lineSeparator", type := (.object "java/lang/String"), accessFlags := 10, slot := 12, constantValue := 0 }, { name := "bootLayer", type := (.object "java/lang/ModuleLayer"), accessFlags := 8, slot := 13, constantValue := 0 }]
  methods := #[k10m0, k10m1]
  instanceTypes := #[]
  staticTypes := #[(.object "java/io/InputStream"), (.object "java/io/PrintStream"), (.object "java/io/PrintStream"), (.object "java/io/InputStream"), .int, .int, .int, (.object "java/lang/SecurityManager"), (.object "java/lang/String"), (.object "java/io/Console"), (.object "java/io/PrintStream"), (.object "java/util/Properties"), (.object "java/lang/String"), (.object "java/lang/ModuleLayer")]
  resolved := Array.replicate 834 none
  statics := none }

def pool11 : Array CpInfo := pool [(1, .class_ 2), (0, u "java/lang/Cloneable"), (0, .class_ 4), (0, u "java/lang/Object")] 2

/-- java/lang/Cloneable -/
def k11 : Class := { plain "java/lang/Cloneable" (some 0) with
  accessFlags := 1537
  interfaces := #[]
  cf := some (fileOf pool11 1 #[] #[] 1537 3 #[] #[])
  fields := #[]
  methods := #[]
  instanceTypes := #[]
  staticTypes := #[]
  resolved := Array.replicate 7 none
  statics := none }

/-- the primitive byte -/
def k12 : Class := { plain "byte" none with kind := .primitive 'B', accessFlags := 0x411 }
/-- [B -/
def k13 : Class := { plain "[B" (some 0) with kind := .array 12 .byte, interfaces := #[11, 5], accessFlags := 1041 }

/-- the primitive int -/
def k14 : Class := { plain "int" none with kind := .primitive 'I', accessFlags := 0x411 }
/-- [I -/
def k15 : Class := { plain "[I" (some 0) with kind := .array 14 .int, interfaces := #[11, 5], accessFlags := 1041 }

/-- the primitive long -/
def k16 : Class := { plain "long" none with kind := .primitive 'J', accessFlags := 0x411 }
/-- [J -/
def k17 : Class := { plain "[J" (some 0) with kind := .array 16 .long, interfaces := #[11, 5], accessFlags := 1041 }

def heap : Heap := #[{ cls := 7, slots := #[.ref 1, .ref 2, .ref 3, .ref 4, .null], vm := .statics 7 },
  { cls := 7, slots := #[.null, .int 0, .int 0], vm := .none },
  { cls := 7, slots := #[.null, .int 1, .int 0], vm := .none },
  { cls := 7, slots := #[.null, .int 2, .int 0], vm := .none },
  { cls := 7, slots := #[.null, .int 3, .int 0], vm := .none }]
def classes : Array Class := #[k0, k1, k2, k3, k4, k5, k6, k7, k8, k9, k10, k11, k12, k13, k14, k15, k16, k17]
def interned : List (Array UInt16 × Addr) := []
def slotsUsed : Nat := 17
def theMethod : MethodId := ⟨1, 4⟩
def args0 : Array Value := #[.long 5, .int 1, .int 2, .int 3, .int 4, .int 5]
def aboutOver (below : List Frame) : State where
  vm := { classes := classes, interned := interned.toArray }
  heap := heap
  slotsUsed := slotsUsed
  threads := #[{ frames := .invoking theMethod args0 :: below }]
def below0 : List Frame := [.native { method := ⟨0, 0⟩, args := #[] }]
def about1 : State := aboutOver below0
def p0 : Program := .bare "" "" ""
def e0 : Env := launch0.env 0 0 0
theorem w_frames : about1.frames = Frame.invoking theMethod args0 :: below0 := rfl
set_option maxRecDepth 65536 in
theorem w_args : argsFit about1.vm theMethod args0 = true := by decide +kernel
set_option maxRecDepth 65536 in
theorem w_heap : heapFits about1 = true := by decide +kernel
set_option maxRecDepth 65536 in
theorem w_runnable : about1.curStatus? = some .runnable := by decide +kernel
set_option maxRecDepth 65536 in
theorem w_alone : about1.alone = true := by decide +kernel
set_option maxRecDepth 65536 in
theorem w_named : about1.methodNamed? x = some theMethod := by decide +kernel
set_option maxRecDepth 65536 in
theorem w_hears : about1.hears theMethod below0 = true := by decide +kernel
set_option maxRecDepth 65536 in
theorem w_ripe : about1.ripe theMethod args0 below0 = true := by decide +kernel
theorem w_running : about1.status = .running := rfl
set_option maxRecDepth 65536 in
theorem w_room : about1.hasRoom e0.platform room_1 = true :=
  launch0.hasRoom_least _ room_1 (by decide +kernel) (by decide +kernel) (by decide +kernel) (by decide +kernel) (by decide +kernel) (by decide +kernel)
theorem allAtoms_all (ts : List Jvm.Cond) (a : Array Jvm.Value) (st : Jvm.State) : (allAtoms ts).before a st = ts.all (fun c => c.before a st) := by
  induction ts with
  | nil => rfl
  | cons c t ih =>
    show (Jvm.Cond.and c (allAtoms t)).before a st = _
    rw [Jvm.Cond.before_and, ih, List.all_cons]
def words1 : List Jvm.Cond := Jvm.Cond.code x code maxLocals ret :: tables_1
/-- a 'code' word, met by the world's own term for the bytes: nothing is compared byte by byte -/
theorem code_word {y : MethodName} {bytes : ByteArray} {mx : Nat} {rt : Option FieldType} {a : Array Value} {s : State} {m : MethodId} {meth : Method} {c : Code} (h1 : s.methodNamed? y = some m) (h2 : s.vm.method? m = some meth) (h3 : meth.code = some c) (h4 : c.code = bytes)
    (h5 : (c.maxLocals == mx && c.exceptionTable.isEmpty && decide (c.maxStack ≤ mostOperands) && decide (meth.sig.returnType = rt) && !meth.locks && decide (parseMethodDescriptor y.desc = some meth.sig)) = true) : (Jvm.Cond.code y bytes mx rt).before a s = true := by
  simp only [Bool.and_eq_true, beq_iff_eq, Bool.not_eq_true', decide_eq_true_eq] at h5
  obtain ⟨⟨⟨⟨⟨g1, g2⟩, g3⟩, g4⟩, g5⟩, g6⟩ := h5
  simp [Cond.before, Cond.holds, Cond.value, h1, h2, h3, h4, g1, g2, g3, g4, g5, g6]
def isCode : Jvm.Cond → Bool
  | .code _ _ _ _ => true
  | _ => false
theorem all_split {L : List Jvm.Cond} {P : Jvm.Cond → Bool} (h1 : L.all (fun c => isCode c || P c) = true) (h2 : ∀ c ∈ L.filter isCode, P c = true) : L.all P = true := by
  refine List.all_eq_true.mpr fun c hc => ?_
  have h := List.all_eq_true.mp h1 c hc
  rcases Bool.eq_false_or_eq_true (isCode c) with hi | hi
  · exact h2 c (List.mem_filter.mpr ⟨hc, hi⟩)
  · simpa [hi] using h
set_option maxRecDepth 65536 in
theorem w_c0 : (Jvm.Cond.code x code maxLocals ret).before args0 about1 = true := code_word (m := ⟨1, 4⟩) (meth := k1m4) (c := k1c4) (by decide +kernel) rfl rfl rfl (by decide +kernel)
set_option maxRecDepth 65536 in
theorem w_c1 : (Jvm.Cond.code ({ cls := "com/example/nuthatch/nuthatch/store/JournalTallyDropPassingPinLaw", name := "live", desc := "(I)I" } : Jvm.MethodName) method_4_code (1 : Nat) (Option.some Jvm.ClassFile.FieldType.int)).before args0 about1 = true := code_word (m := ⟨1, 3⟩) (meth := k1m3) (c := k1c3) (by decide +kernel) rfl rfl rfl (by decide +kernel)
set_option maxRecDepth 65536 in
theorem w_c2 : (Jvm.Cond.code ({ cls := "com/example/nuthatch/nuthatch/store/JournalTally", name := "<init>", desc := "()V" } : Jvm.MethodName) prog_42_method_1_code (1 : Nat) (Option.none : Option Jvm.ClassFile.FieldType)).before args0 about1 = true := code_word (m := ⟨2, 0⟩) (meth := k2m0) (c := k2c0) (by decide +kernel) rfl rfl rfl (by decide +kernel)
set_option maxRecDepth 65536 in
theorem w_c3 : (Jvm.Cond.code ({ cls := "java/lang/Object", name := "<init>", desc := "()V" } : Jvm.MethodName) object_method_1_code (1 : Nat) (Option.none : Option Jvm.ClassFile.FieldType)).before args0 about1 = true := code_word (m := ⟨0, 0⟩) (meth := k0m0) (c := k0c0) (by decide +kernel) rfl rfl rfl (by decide +kernel)
set_option maxRecDepth 65536 in
theorem w_c4 : (Jvm.Cond.code ({ cls := "com/example/nuthatch/nuthatch/store/JournalTallyDropPassingPinLaw", name := "createWithOp", desc := "(Lcom/example/nuthatch/nuthatch/store/JournalTally;JI)V" } : Jvm.MethodName) method_3_code (4 : Nat) (Option.none : Option Jvm.ClassFile.FieldType)).before args0 about1 = true := code_word (m := ⟨1, 2⟩) (meth := k1m2) (c := k1c2) (by decide +kernel) rfl rfl rfl (by decide +kernel)
set_option maxRecDepth 65536 in
theorem w_c5 : (Jvm.Cond.code ({ cls := "com/example/nuthatch/nuthatch/store/JournalTally", name := "add", desc := "(Lcom/example/nuthatch/nuthatch/store/ChangeRecord$Kind;J)V" } : Jvm.MethodName) prog_42_method_2_code (5 : Nat) (Option.none : Option Jvm.ClassFile.FieldType)).before args0 about1 = true := code_word (m := ⟨2, 1⟩) (meth := k2m1) (c := k2c1) (by decide +kernel) rfl rfl rfl (by decide +kernel)
set_option maxRecDepth 65536 in
theorem w_c6 : (Jvm.Cond.code ({ cls := "com/example/nuthatch/nuthatch/store/JournalTally", name := "creation", desc := "(J)I" } : Jvm.MethodName) prog_42_method_6_code (7 : Nat) (Option.some Jvm.ClassFile.FieldType.int)).before args0 about1 = true := code_word (m := ⟨2, 5⟩) (meth := k2m5) (c := k2c5) (by decide +kernel) rfl rfl rfl (by decide +kernel)
set_option maxRecDepth 65536 in
theorem w_c7 : (Jvm.Cond.code ({ cls := "com/example/nuthatch/nuthatch/store/JournalTallyDropPassingPinLaw", name := "kindOf", desc := "(I)Lcom/example/nuthatch/nuthatch/store/ChangeRecord$Kind;" } : Jvm.MethodName) method_2_code (1 : Nat) (Option.some (Jvm.ClassFile.FieldType.object "com/example/nuthatch/nuthatch/store/ChangeRecord$Kind"))).before args0 about1 = true := code_word (m := ⟨1, 1⟩) (meth := k1m1) (c := k1c1) (by decide +kernel) rfl rfl rfl (by decide +kernel)
set_option maxRecDepth 65536 in
theorem w_c8 : (Jvm.Cond.code ({ cls := "com/example/nuthatch/nuthatch/store/JournalTally", name := "dropPassing", desc := "()V" } : Jvm.MethodName) prog_42_method_5_code (3 : Nat) (Option.none : Option Jvm.ClassFile.FieldType)).before args0 about1 = true := code_word (m := ⟨2, 4⟩) (meth := k2m4) (c := k2c4) (by decide +kernel) rfl rfl rfl (by decide +kernel)
set_option maxRecDepth 65536 in
theorem w_c9 : (Jvm.Cond.code ({ cls := "com/example/nuthatch/nuthatch/store/JournalTally", name := "writes", desc := "()I" } : Jvm.MethodName) prog_42_method_3_code (1 : Nat) (Option.some Jvm.ClassFile.FieldType.int)).before args0 about1 = true := code_word (m := ⟨2, 2⟩) (meth := k2m2) (c := k2c2) (by decide +kernel) rfl rfl rfl (by decide +kernel)
set_option maxRecDepth 65536 in
theorem w_c10 : (Jvm.Cond.code ({ cls := "com/example/nuthatch/nuthatch/store/JournalTally", name := "passing", desc := "()[J" } : Jvm.MethodName) prog_42_method_4_code (4 : Nat) (Option.some (Jvm.ClassFile.FieldType.array Jvm.ClassFile.FieldType.long))).before args0 about1 = true := code_word (m := ⟨2, 3⟩) (meth := k2m3) (c := k2c3) (by decide +kernel) rfl rfl rfl (by decide +kernel)
set_option maxRecDepth 65536 in
theorem w_c11 : (Jvm.Cond.code ({ cls := "java/util/Arrays", name := "copyOf", desc := "([JI)[J" } : Jvm.MethodName) jdk_65_method_124_code (3 : Nat) (Option.some (Jvm.ClassFile.FieldType.array Jvm.ClassFile.FieldType.long))).before args0 about1 = true := code_word (m := ⟨8, 4⟩) (meth := k8m4) (c := k8c4) (by decide +kernel) rfl rfl rfl (by decide +kernel)
set_option maxRecDepth 65536 in
theorem w_c12 : (Jvm.Cond.code ({ cls := "java/lang/Math", name := "min", desc := "(II)I" } : Jvm.MethodName) jdk_29_method_69_code (2 : Nat) (Option.some Jvm.ClassFile.FieldType.int)).before args0 about1 = true := code_word (m := ⟨9, 1⟩) (meth := k9m1) (c := k9c1) (by decide +kernel) rfl rfl rfl (by decide +kernel)
set_option maxRecDepth 65536 in
theorem w_c13 : (Jvm.Cond.code ({ cls := "java/util/Arrays", name := "binarySearch", desc := "([JIIJ)I" } : Jvm.MethodName) jdk_65_method_55_code (5 : Nat) (Option.some Jvm.ClassFile.FieldType.int)).before args0 about1 = true := code_word (m := ⟨8, 2⟩) (meth := k8m2) (c := k8c2) (by decide +kernel) rfl rfl rfl (by decide +kernel)
set_option maxRecDepth 65536 in
theorem w_c14 : (Jvm.Cond.code ({ cls := "java/util/Arrays", name := "rangeCheck", desc := "(III)V" } : Jvm.MethodName) jdk_65_method_30_code (3 : Nat) (Option.none : Option Jvm.ClassFile.FieldType)).before args0 about1 = true := code_word (m := ⟨8, 1⟩) (meth := k8m1) (c := k8c1) (by decide +kernel) rfl rfl rfl (by decide +kernel)
set_option maxRecDepth 65536 in
theorem w_c15 : (Jvm.Cond.code ({ cls := "java/util/Arrays", name := "binarySearch0", desc := "([JIIJ)I" } : Jvm.MethodName) jdk_65_method_56_code (10 : Nat) (Option.some Jvm.ClassFile.FieldType.int)).before args0 about1 = true := code_word (m := ⟨8, 3⟩) (meth := k8m3) (c := k8c3) (by decide +kernel) rfl rfl rfl (by decide +kernel)
def codes1 : List Jvm.Cond := [Jvm.Cond.code x code maxLocals ret, Jvm.Cond.code ({ cls := "com/example/nuthatch/nuthatch/store/JournalTallyDropPassingPinLaw", name := "live", desc := "(I)I" } : Jvm.MethodName) method_4_code (1 : Nat) (Option.some Jvm.ClassFile.FieldType.int), Jvm.Cond.code ({ cls := "com/example/nuthatch/nuthatch/store/JournalTally", name := "<init>", desc := "()V" } : Jvm.MethodName) prog_42_method_1_code (1 : Nat) (Option.none : Option Jvm.ClassFile.FieldType), Jvm.Cond.code ({ cls := "java/lang/Object", name := "<init>", desc := "()V" } : Jvm.MethodName) object_method_1_code (1 : Nat) (Option.none : Option Jvm.ClassFile.FieldType), Jvm.Cond.code ({ cls := "com/example/nuthatch/nuthatch/store/JournalTallyDropPassingPinLaw", name := "createWithOp", desc := "(Lcom/example/nuthatch/nuthatch/store/JournalTally;JI)V" } : Jvm.MethodName) method_3_code (4 : Nat) (Option.none : Option Jvm.ClassFile.FieldType), Jvm.Cond.code ({ cls := "com/example/nuthatch/nuthatch/store/JournalTally", name := "add", desc := "(Lcom/example/nuthatch/nuthatch/store/ChangeRecord$Kind;J)V" } : Jvm.MethodName) prog_42_method_2_code (5 : Nat) (Option.none : Option Jvm.ClassFile.FieldType), Jvm.Cond.code ({ cls := "com/example/nuthatch/nuthatch/store/JournalTally", name := "creation", desc := "(J)I" } : Jvm.MethodName) prog_42_method_6_code (7 : Nat) (Option.some Jvm.ClassFile.FieldType.int), Jvm.Cond.code ({ cls := "com/example/nuthatch/nuthatch/store/JournalTallyDropPassingPinLaw", name := "kindOf", desc := "(I)Lcom/example/nuthatch/nuthatch/store/ChangeRecord$Kind;" } : Jvm.MethodName) method_2_code (1 : Nat) (Option.some (Jvm.ClassFile.FieldType.object "com/example/nuthatch/nuthatch/store/ChangeRecord$Kind")), Jvm.Cond.code ({ cls := "com/example/nuthatch/nuthatch/store/JournalTally", name := "dropPassing", desc := "()V" } : Jvm.MethodName) prog_42_method_5_code (3 : Nat) (Option.none : Option Jvm.ClassFile.FieldType), Jvm.Cond.code ({ cls := "com/example/nuthatch/nuthatch/store/JournalTally", name := "writes", desc := "()I" } : Jvm.MethodName) prog_42_method_3_code (1 : Nat) (Option.some Jvm.ClassFile.FieldType.int), Jvm.Cond.code ({ cls := "com/example/nuthatch/nuthatch/store/JournalTally", name := "passing", desc := "()[J" } : Jvm.MethodName) prog_42_method_4_code (4 : Nat) (Option.some (Jvm.ClassFile.FieldType.array Jvm.ClassFile.FieldType.long)), Jvm.Cond.code ({ cls := "java/util/Arrays", name := "copyOf", desc := "([JI)[J" } : Jvm.MethodName) jdk_65_method_124_code (3 : Nat) (Option.some (Jvm.ClassFile.FieldType.array Jvm.ClassFile.FieldType.long)), Jvm.Cond.code ({ cls := "java/lang/Math", name := "min", desc := "(II)I" } : Jvm.MethodName) jdk_29_method_69_code (2 : Nat) (Option.some Jvm.ClassFile.FieldType.int), Jvm.Cond.code ({ cls := "java/util/Arrays", name := "binarySearch", desc := "([JIIJ)I" } : Jvm.MethodName) jdk_65_method_55_code (5 : Nat) (Option.some Jvm.ClassFile.FieldType.int), Jvm.Cond.code ({ cls := "java/util/Arrays", name := "rangeCheck", desc := "(III)V" } : Jvm.MethodName) jdk_65_method_30_code (3 : Nat) (Option.none : Option Jvm.ClassFile.FieldType), Jvm.Cond.code ({ cls := "java/util/Arrays", name := "binarySearch0", desc := "([JIIJ)I" } : Jvm.MethodName) jdk_65_method_56_code (10 : Nat) (Option.some Jvm.ClassFile.FieldType.int)]
set_option maxRecDepth 65536 in
theorem codes_eq : words1.filter isCode = codes1 := rfl
theorem w_codes : ∀ c ∈ words1.filter isCode, c.before args0 about1 = true := by
  rw [codes_eq]
  intro c hc
  simp only [codes1, List.mem_cons, List.not_mem_nil, or_false] at hc
  rcases hc with rfl | rfl | rfl | rfl | rfl | rfl | rfl | rfl | rfl | rfl | rfl | rfl | rfl | rfl | rfl | rfl
  · exact w_c0
  · exact w_c1
  · exact w_c2
  · exact w_c3
  · exact w_c4
  · exact w_c5
  · exact w_c6
  · exact w_c7
  · exact w_c8
  · exact w_c9
  · exact w_c10
  · exact w_c11
  · exact w_c12
  · exact w_c13
  · exact w_c14
  · exact w_c15
set_option maxRecDepth 65536 in
theorem w_t1 : (words1.take 24).all (fun c => isCode c || c.before args0 about1) = true := by decide +kernel
set_option maxRecDepth 65536 in
theorem w_t2 : ((words1.drop 24).take 24).all (fun c => isCode c || c.before args0 about1) = true := by decide +kernel
set_option maxRecDepth 65536 in
theorem w_t3 : (((words1.drop 24).drop 24).take 24).all (fun c => isCode c || c.before args0 about1) = true := by decide +kernel
set_option maxRecDepth 65536 in
theorem w_t4 : ((((words1.drop 24).drop 24).drop 24).take 24).all (fun c => isCode c || c.before args0 about1) = true := by decide +kernel
set_option maxRecDepth 65536 in
theorem w_t5 : ((((words1.drop 24).drop 24).drop 24).drop 24).all (fun c => isCode c || c.before args0 about1) = true := by decide +kernel
theorem w_tables : (allAtoms (Jvm.Cond.code x code maxLocals ret :: tables_1)).before args0 about1 = true := by
  rw [allAtoms_all]
  show words1.all (fun c => c.before args0 about1) = true
  refine all_split ?_ w_codes
  rw [← List.take_append_drop 24 words1, List.all_append, w_t1, ← List.take_append_drop 24 (words1.drop 24), List.all_append, w_t2, ← List.take_append_drop 24 ((words1.drop 24).drop 24), List.all_append, w_t3, ← List.take_append_drop 24 (((words1.drop 24).drop 24).drop 24), List.all_append, w_t4, w_t5]
  rfl
set_option maxRecDepth 65536 in
theorem w_case : (Jvm.Cond.and given_1 narrow_1).before args0 about1 = true := by decide +kernel
theorem w_applies : (headSpec (Jvm.Cond.code x code maxLocals ret :: tables_1) room_1).applies x e0.platform about1 = true :=
  (Spec.applies_iff w_frames).mpr ⟨w_running, w_runnable, w_alone, w_named, w_hears, w_ripe, w_room, w_tables⟩
theorem atStart : AtStart classFile x code maxLocals ret World_1 tables_1 room_1 Calls_1 rest_1 Pre_1 launch0 p0 e0 about1 theMethod args0 below0 :=
  ⟨lists_1, trivial, launch0.admits_env _ _ _, launch0.least_env, fairChoices_fair.cas, fairChoices_fair.clock, w_frames, w_args, w_heap, w_applies, trivial, trivial, w_case⟩
end start1
theorem witness_1 : WitnessClaimed_1 := ⟨start1.p0, start1.e0, start1.about1, start1.theMethod, start1.args0, start1.below0, start1.atStart⟩
end Jvm.Pilot.@@N@@
