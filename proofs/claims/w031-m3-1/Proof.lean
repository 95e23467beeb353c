import JvmDerived
import JvmDerived.Pilot.@@N@@Statement
import JvmDerived.Pilot.@@N@@Code
set_option linter.unusedVariables false
set_option linter.unusedSimpArgs false
namespace Jvm.RoadKit
open Sem ClassFile Op Lib Jvm.Stand Jvm.Free Jvm.LawKit
section New
variable {p : Program} {l : Launch} {e : Env} {R : Room} {s : State} {m : MethodId} {args : Array Value} {below : List Frame} {meth : Method} {c : Code} {T : State} {locs : List Loc} {cells slots : Nat}
theorem retI (X : Stand p l e R s m args below meth c T locs cells slots) (hx : p.tables.exec = Jvm.exec) {pc : Nat} {Ls : Array Slot} {z : Int32} {rest : List Value} (hret : meth.sig.returnType = some .int) (hd : decode c.code pc = .ok (.ireturn, 1)) {fs : List Frame}
    (hl : ∀ (f : JFrame) (acts : List Action), f.method = m → f.locked = none → f.entered = [] → (doReturn e (T.setTop f) acts (some (.int z))).1 = T.setFrames fs) : Steps p.tables e below (T.setTop (mkF m pc Ls (.int z :: rest))) (T.setFrames fs) := by
  have hm' : T.vm.method? m = some meth := X.method'
  have hn : narrow .int (.int z) = .int z := rfl
  show Steps p.tables e below (T.setTop { method := m, pc := pc, locals := Ls, stack := _ :: rest, locked := none }) _
  jvm_step X.here [X.here.top, hx, hd, hm', hret, hn]
  first | (intro acts; rw [hl _ acts rfl rfl rfl]) | rw [hl _ _ rfl rfl rfl]
  exact Steps.refl _
end New
end Jvm.RoadKit
namespace Jvm.Pilot.@@N@@
open Jvm Jvm.ClassFile Sem Op Lib Jvm.Free Jvm.Stand Jvm.LawKit Jvm.RoadKit Bundle Jvm.Pilot.@@N@@.Jvm.D
/-! ## Go: a walk as a proposition, read backwards -/
def Cx (p : Program) (s : State) (m : MethodId) (meth : Method) (c : Code) (Z : State) (own nm : String) (code : ByteArray) (ml : Nat) (ret : Option FieldType) : Prop :=
  p.tables.exec = Jvm.exec ∧ c.code = code ∧ c.maxLocals = ml ∧ s.vm.findClass own = some m.cls ∧ Z.Warmed39 s.vm ∧ meth.name = nm ∧ meth.sig.returnType = ret ∧ meth.locks = false
def Go (p : Program) (l : Launch) (e : Env) (R : Room) (s : State) (m : MethodId) (args : Array Value) (below : List Frame) (meth : Method) (c : Code) (Ph : State → Option Value → Prop) (n0 : Nat) (h : Heap) (k n : Nat) (pc : Nat) (Ls : Array Slot) (st : List Value) : Prop :=
  ∀ T locs, Stand p l e R s m args below meth c T locs k n → Fr n0 locs → T.heap = h → ∃ s₂ v, Steps p.tables e below (T.setTop (mkF m pc Ls st)) s₂ ∧ Ph s₂ v
section GoRules
variable {p : Program} {l : Launch} {e : Env} {R : Room} {s : State} {m : MethodId} {args : Array Value} {below : List Frame} {meth : Method} {c : Code} {Ph : State → Option Value → Prop} {n0 : Nat} {h : Heap} {k n : Nat} {pc q : Nat} {Ls : Array Slot} {st rest : List Value} {Z : State} {a0 : Array Value} {own nm : String} {code : ByteArray} {ml : Nat} {ret : Option FieldType}
theorem Go.pl {pc' : Nat} {Ls' : Array Slot} {st' : List Value} (H : ∀ (T target : State), At T m c below → Steps p.tables e below (T.setTop (mkF m pc' Ls' st')) target → Steps p.tables e below (T.setTop (mkF m pc Ls st)) target) (K : Go p l e R s m args below meth c Ph n0 h k n pc' Ls' st') : Go p l e R s m args below meth c Ph n0 h k n pc Ls st :=
  fun T locs X N eT => by obtain ⟨s₂, v, S, r⟩ := K T locs X N eT; exact ⟨s₂, v, H T s₂ X.here S, r⟩
theorem Go.more {k' n' : Nat} (hk : k ≤ k') (hn : n ≤ n') (K : Go p l e R s m args below meth c Ph n0 h k' n' pc Ls st) : Go p l e R s m args below meth c Ph n0 h k n pc Ls st := fun T locs X N eT => K T locs (X.loosen hk hn) N eT
theorem Go.low {n1 : Nat} (hn : n0 ≤ n1) (K : Go p l e R s m args below meth c Ph n0 h k n pc Ls st) : Go p l e R s m args below meth c Ph n1 h k n pc Ls st := fun T locs X N eT => K T locs X (fun y hy => Nat.le_trans hn (N y hy)) eT
theorem Go.join {pc' : Nat} {Ls' : Array Slot} {st' : List Value} (J : Go p l e R s m args below meth c Ph n0 h k n pc' Ls' st') (K : Go p l e R s m args below meth c Ph n0 h k n pc' Ls' st' → Go p l e R s m args below meth c Ph n0 h k n pc Ls st) : Go p l e R s m args below meth c Ph n0 h k n pc Ls st := K J
theorem Go.joinR {α : Sort _} {pc' : Nat} (P' : α → Prop) (Ls' : α → Array Slot) (st' : α → List Value) (J : ∀ r, P' r → Go p l e R s m args below meth c Ph n0 h k n pc' (Ls' r) (st' r)) (K : (∀ r, P' r → Go p l e R s m args below meth c Ph n0 h k n pc' (Ls' r) (st' r)) → Go p l e R s m args below meth c Ph n0 h k n pc Ls st) : Go p l e R s m args below meth c Ph n0 h k n pc Ls st := K J
theorem Go.cast {pc' : Nat} {Ls' : Array Slot} {st' : List Value} (e1 : pc' = pc) (e2 : Ls' = Ls) (e3 : st' = st) (K : Go p l e R s m args below meth c Ph n0 h k n pc' Ls' st') : Go p l e R s m args below meth c Ph n0 h k n pc Ls st := by subst e1 e2 e3; exact K
theorem g_iloadN (C : Cx p s m meth c Z own nm code ml ret) {i : Fin 4} {v : Int32} (d : decode code pc = .ok (.iload_n i, 1)) (hl : Ls[i.val]? = some (.val (.int v))) (hq : pc + 1 = q) (K : Go p l e R s m args below meth c Ph n0 h k n q Ls (.int v :: st)) : Go p l e R s m args below meth c Ph n0 h k n pc Ls (st) :=
  Go.pl (fun T t A S => XS.iloadN A C.1 rfl (hb C.2.1 d) hl (by subst hq; exact S)) K
theorem g_iload (C : Cx p s m meth c Z own nm code ml ret) {i : Nat} {v : Int32} (d : decode code pc = .ok (.iload i, 2)) (hl : Ls[i]? = some (.val (.int v))) (hq : pc + 2 = q) (K : Go p l e R s m args below meth c Ph n0 h k n q Ls (.int v :: st)) : Go p l e R s m args below meth c Ph n0 h k n pc Ls (st) :=
  Go.pl (fun T t A S => XS.iload A C.1 rfl (hb C.2.1 d) hl (by subst hq; exact S)) K
theorem g_istoreN (C : Cx p s m meth c Z own nm code ml ret) {i : Fin 4} {v : Int32} {L' : Array Slot} (d : decode code pc = .ok (.istore_n i, 1))  (hl : storeLocals Ls i.val (.int v) = some L') (hq : pc + 1 = q) (K : Go p l e R s m args below meth c Ph n0 h k n q L' (st)) : Go p l e R s m args below meth c Ph n0 h k n pc Ls (.int v :: st) :=
  Go.pl (fun T t A S => XS.istoreN A C.1 rfl (hb C.2.1 d) rfl hl (by subst hq; exact S)) K
theorem g_istore (C : Cx p s m meth c Z own nm code ml ret) {i : Nat} {v : Int32} {L' : Array Slot} (d : decode code pc = .ok (.istore i, 2))  (hl : storeLocals Ls i (.int v) = some L') (hq : pc + 2 = q) (K : Go p l e R s m args below meth c Ph n0 h k n q L' (st)) : Go p l e R s m args below meth c Ph n0 h k n pc Ls (.int v :: st) :=
  Go.pl (fun T t A S => XS.istore A C.1 rfl (hb C.2.1 d) rfl hl (by subst hq; exact S)) K
theorem g_lloadN (C : Cx p s m meth c Z own nm code ml ret) {i : Fin 4} {v : Int64} (d : decode code pc = .ok (.lload_n i, 1)) (hl : Ls[i.val]? = some (.val (.long v))) (hq : pc + 1 = q) (K : Go p l e R s m args below meth c Ph n0 h k n q Ls (.long v :: st)) : Go p l e R s m args below meth c Ph n0 h k n pc Ls (st) :=
  Go.pl (fun T t A S => XT.lloadN A C.1 rfl (hb C.2.1 d) hl (by subst hq; exact S)) K
theorem g_lload (C : Cx p s m meth c Z own nm code ml ret) {i : Nat} {v : Int64} (d : decode code pc = .ok (.lload i, 2)) (hl : Ls[i]? = some (.val (.long v))) (hq : pc + 2 = q) (K : Go p l e R s m args below meth c Ph n0 h k n q Ls (.long v :: st)) : Go p l e R s m args below meth c Ph n0 h k n pc Ls (st) :=
  Go.pl (fun T t A S => XT.lload A C.1 rfl (hb C.2.1 d) hl (by subst hq; exact S)) K
theorem g_lstoreN (C : Cx p s m meth c Z own nm code ml ret) {i : Fin 4} {v : Int64} {L' : Array Slot} (d : decode code pc = .ok (.lstore_n i, 1))  (hl : storeLocals Ls i.val (.long v) = some L') (hq : pc + 1 = q) (K : Go p l e R s m args below meth c Ph n0 h k n q L' (st)) : Go p l e R s m args below meth c Ph n0 h k n pc Ls (.long v :: st) :=
  Go.pl (fun T t A S => XT.lstoreN A C.1 rfl (hb C.2.1 d) rfl hl (by subst hq; exact S)) K
theorem g_lstore (C : Cx p s m meth c Z own nm code ml ret) {i : Nat} {v : Int64} {L' : Array Slot} (d : decode code pc = .ok (.lstore i, 2))  (hl : storeLocals Ls i (.long v) = some L') (hq : pc + 2 = q) (K : Go p l e R s m args below meth c Ph n0 h k n q L' (st)) : Go p l e R s m args below meth c Ph n0 h k n pc Ls (.long v :: st) :=
  Go.pl (fun T t A S => XT.lstore A C.1 rfl (hb C.2.1 d) rfl hl (by subst hq; exact S)) K
theorem g_aloadN (C : Cx p s m meth c Z own nm code ml ret) {i : Fin 4} {v : Value} (d : decode code pc = .ok (.aload_n i, 1)) (hl : Ls[i.val]? = some (.val v)) (hv : v.isRef = true) (hq : pc + 1 = q) (K : Go p l e R s m args below meth c Ph n0 h k n q Ls (v :: st)) : Go p l e R s m args below meth c Ph n0 h k n pc Ls (st) :=
  Go.pl (fun T t A S => XS.aloadN A C.1 rfl (hb C.2.1 d) hl hv (by subst hq; exact S)) K
theorem g_aload (C : Cx p s m meth c Z own nm code ml ret) {i : Nat} {v : Value} (d : decode code pc = .ok (.aload i, 2)) (hl : Ls[i]? = some (.val v)) (hv : v.isRef = true) (hq : pc + 2 = q) (K : Go p l e R s m args below meth c Ph n0 h k n q Ls (v :: st)) : Go p l e R s m args below meth c Ph n0 h k n pc Ls (st) :=
  Go.pl (fun T t A S => XS.aload A C.1 rfl (hb C.2.1 d) hl hv (by subst hq; exact S)) K
theorem g_astoreN (C : Cx p s m meth c Z own nm code ml ret) {i : Fin 4} {v : Value} {L' : Array Slot} (d : decode code pc = .ok (.astore_n i, 1))  (hv : v.isRef = true) (hl : storeLocals Ls i.val (v) = some L') (hq : pc + 1 = q) (K : Go p l e R s m args below meth c Ph n0 h k n q L' (st)) : Go p l e R s m args below meth c Ph n0 h k n pc Ls (v :: st) :=
  Go.pl (fun T t A S => XS.astoreN A C.1 rfl (hb C.2.1 d) rfl hv hl (by subst hq; exact S)) K
theorem g_astore (C : Cx p s m meth c Z own nm code ml ret) {i : Nat} {v : Value} {L' : Array Slot} (d : decode code pc = .ok (.astore i, 2))  (hv : v.isRef = true) (hl : storeLocals Ls i (v) = some L') (hq : pc + 2 = q) (K : Go p l e R s m args below meth c Ph n0 h k n q L' (st)) : Go p l e R s m args below meth c Ph n0 h k n pc Ls (v :: st) :=
  Go.pl (fun T t A S => XS.astore A C.1 rfl (hb C.2.1 d) rfl hv hl (by subst hq; exact S)) K
theorem g_iinc (C : Cx p s m meth c Z own nm code ml ret) {i : Nat} {cst : Int} {v : Int32} {L' : Array Slot} (d : decode code pc = .ok (.iinc i cst, 3)) (hl : Ls[i]? = some (.val (.int v))) (hl' : storeLocals Ls i (.int (v + Int32.ofInt cst)) = some L') (hq : pc + 3 = q) (K : Go p l e R s m args below meth c Ph n0 h k n q L' (st)) : Go p l e R s m args below meth c Ph n0 h k n pc Ls (st) :=
  Go.pl (fun T t A S => XS.iinc A C.1 rfl (hb C.2.1 d) hl hl' (by subst hq; exact S)) K
theorem g_iconst (C : Cx p s m meth c Z own nm code ml ret) {i : Int} {z : Int32} (d : decode code pc = .ok (.iconst i, 1)) (hz : Int32.ofInt i = z) (hq : pc + 1 = q) (K : Go p l e R s m args below meth c Ph n0 h k n q Ls (.int z :: st)) : Go p l e R s m args below meth c Ph n0 h k n pc Ls st :=
  Go.pl (fun T t A S => XS.iconst A C.1 rfl (hb C.2.1 d) (by subst hq hz; exact S)) K
theorem g_bipush (C : Cx p s m meth c Z own nm code ml ret) {i : Int} {z : Int32} (d : decode code pc = .ok (.bipush i, 2)) (hz : (Int8.ofInt i).toInt32 = z) (hq : pc + 2 = q) (K : Go p l e R s m args below meth c Ph n0 h k n q Ls (.int z :: st)) : Go p l e R s m args below meth c Ph n0 h k n pc Ls st :=
  Go.pl (fun T t A S => XS.bipush A C.1 rfl (hb C.2.1 d) (by subst hq hz; exact S)) K
theorem g_sipush (C : Cx p s m meth c Z own nm code ml ret) {i : Int} {z : Int32} (d : decode code pc = .ok (.sipush i, 3)) (hz : (Int16.ofInt i).toInt32 = z) (hq : pc + 3 = q) (K : Go p l e R s m args below meth c Ph n0 h k n q Ls (.int z :: st)) : Go p l e R s m args below meth c Ph n0 h k n pc Ls st :=
  Go.pl (fun T t A S => XS.sipush A C.1 rfl (hb C.2.1 d) (by subst hq hz; exact S)) K
theorem g_lconst (C : Cx p s m meth c Z own nm code ml ret) {i : Fin 2} {z : Int64} (d : decode code pc = .ok (.lconst i, 1)) (hz : Int64.ofNat i = z) (hq : pc + 1 = q) (K : Go p l e R s m args below meth c Ph n0 h k n q Ls (.long z :: st)) : Go p l e R s m args below meth c Ph n0 h k n pc Ls st :=
  Go.pl (fun T t A S => XT.lconst A C.1 rfl (hb C.2.1 d) (by subst hq hz; exact S)) K
theorem g_aconst_null (C : Cx p s m meth c Z own nm code ml ret)  (d : decode code pc = .ok (.aconst_null, 1))  (hq : pc + 1 = q) (K : Go p l e R s m args below meth c Ph n0 h k n q Ls (.null :: st)) : Go p l e R s m args below meth c Ph n0 h k n pc Ls (st) :=
  Go.pl (fun T t A S => XS.aconstNull A C.1 rfl (hb C.2.1 d)  (by subst hq; exact S)) K
theorem g_dup (C : Cx p s m meth c Z own nm code ml ret) {x : Value} (d : decode code pc = .ok (.dup, 1)) (hc : x.category = 1) (hq : pc + 1 = q) (K : Go p l e R s m args below meth c Ph n0 h k n q Ls (x :: x :: st)) : Go p l e R s m args below meth c Ph n0 h k n pc Ls (x :: st) :=
  Go.pl (fun T t A S => XS.dup A C.1 rfl (hb C.2.1 d) rfl hc (by subst hq; exact S)) K
theorem g_pop (C : Cx p s m meth c Z own nm code ml ret) {x : Value} (d : decode code pc = .ok (.pop, 1)) (hc : x.category = 1) (hq : pc + 1 = q) (K : Go p l e R s m args below meth c Ph n0 h k n q Ls (st)) : Go p l e R s m args below meth c Ph n0 h k n pc Ls (x :: st) :=
  Go.pl (fun T t A S => XT.pop A C.1 rfl (hb C.2.1 d) rfl hc (by subst hq; exact S)) K
theorem g_dup_x1 (C : Cx p s m meth c Z own nm code ml ret) {x y : Value} (d : decode code pc = .ok (.dup_x1, 1)) (hc : x.category = 1) (hc' : y.category = 1) (hq : pc + 1 = q) (K : Go p l e R s m args below meth c Ph n0 h k n q Ls (x :: y :: x :: st)) : Go p l e R s m args below meth c Ph n0 h k n pc Ls (x :: y :: st) :=
  Go.pl (fun T t A S => XT.dupX1 A C.1 rfl (hb C.2.1 d) rfl hc hc' (by subst hq; exact S)) K
theorem g_dup2 (C : Cx p s m meth c Z own nm code ml ret) {x y : Value} (d : decode code pc = .ok (.dup2, 1)) (hc : x.category = 1) (hc' : y.category = 1) (hq : pc + 1 = q) (K : Go p l e R s m args below meth c Ph n0 h k n q Ls (x :: y :: x :: y :: st)) : Go p l e R s m args below meth c Ph n0 h k n pc Ls (x :: y :: st) :=
  Go.pl (fun T t A S => XT.dup2 A C.1 rfl (hb C.2.1 d) rfl hc hc' (by subst hq; exact S)) K
theorem g_dup2L (C : Cx p s m meth c Z own nm code ml ret) {x : Int64} (d : decode code pc = .ok (.dup2, 1))  (hq : pc + 1 = q) (K : Go p l e R s m args below meth c Ph n0 h k n q Ls (.long x :: .long x :: st)) : Go p l e R s m args below meth c Ph n0 h k n pc Ls (.long x :: st) :=
  Go.pl (fun T t A S => XT.dup2L A C.1 rfl (hb C.2.1 d) rfl (by subst hq; exact S)) K
theorem g_iadd (C : Cx p s m meth c Z own nm code ml ret) {x y : Int32} (d : decode code pc = .ok (.iadd, 1))  (hq : pc + 1 = q) (K : Go p l e R s m args below meth c Ph n0 h k n q Ls (.int (x + y) :: st)) : Go p l e R s m args below meth c Ph n0 h k n pc Ls (.int y :: .int x :: st) :=
  Go.pl (fun T t A S => XS.iadd A C.1 rfl (hb C.2.1 d) rfl (by subst hq; exact S)) K
theorem g_isub (C : Cx p s m meth c Z own nm code ml ret) {x y : Int32} (d : decode code pc = .ok (.isub, 1))  (hq : pc + 1 = q) (K : Go p l e R s m args below meth c Ph n0 h k n q Ls (.int (x - y) :: st)) : Go p l e R s m args below meth c Ph n0 h k n pc Ls (.int y :: .int x :: st) :=
  Go.pl (fun T t A S => XS.isub A C.1 rfl (hb C.2.1 d) rfl (by subst hq; exact S)) K
theorem g_imul (C : Cx p s m meth c Z own nm code ml ret) {x y : Int32} (d : decode code pc = .ok (.imul, 1))  (hq : pc + 1 = q) (K : Go p l e R s m args below meth c Ph n0 h k n q Ls (.int (x * y) :: st)) : Go p l e R s m args below meth c Ph n0 h k n pc Ls (.int y :: .int x :: st) :=
  Go.pl (fun T t A S => XS.imul A C.1 rfl (hb C.2.1 d) rfl (by subst hq; exact S)) K
theorem g_iand (C : Cx p s m meth c Z own nm code ml ret) {x y : Int32} (d : decode code pc = .ok (.iand, 1))  (hq : pc + 1 = q) (K : Go p l e R s m args below meth c Ph n0 h k n q Ls (.int (x &&& y) :: st)) : Go p l e R s m args below meth c Ph n0 h k n pc Ls (.int y :: .int x :: st) :=
  Go.pl (fun T t A S => XS.iand A C.1 rfl (hb C.2.1 d) rfl (by subst hq; exact S)) K
theorem g_ior (C : Cx p s m meth c Z own nm code ml ret) {x y : Int32} (d : decode code pc = .ok (.ior, 1))  (hq : pc + 1 = q) (K : Go p l e R s m args below meth c Ph n0 h k n q Ls (.int (x ||| y) :: st)) : Go p l e R s m args below meth c Ph n0 h k n pc Ls (.int y :: .int x :: st) :=
  Go.pl (fun T t A S => XT.ior A C.1 rfl (hb C.2.1 d) rfl (by subst hq; exact S)) K
theorem g_ixor (C : Cx p s m meth c Z own nm code ml ret) {x y : Int32} (d : decode code pc = .ok (.ixor, 1))  (hq : pc + 1 = q) (K : Go p l e R s m args below meth c Ph n0 h k n q Ls (.int (x ^^^ y) :: st)) : Go p l e R s m args below meth c Ph n0 h k n pc Ls (.int y :: .int x :: st) :=
  Go.pl (fun T t A S => XT.ixor A C.1 rfl (hb C.2.1 d) rfl (by subst hq; exact S)) K
theorem g_ishl (C : Cx p s m meth c Z own nm code ml ret) {x y : Int32} (d : decode code pc = .ok (.ishl, 1))  (hq : pc + 1 = q) (K : Go p l e R s m args below meth c Ph n0 h k n q Ls (.int (x <<< (y &&& 31)) :: st)) : Go p l e R s m args below meth c Ph n0 h k n pc Ls (.int y :: .int x :: st) :=
  Go.pl (fun T t A S => XT.ishl A C.1 rfl (hb C.2.1 d) rfl (by subst hq; exact S)) K
theorem g_ishr (C : Cx p s m meth c Z own nm code ml ret) {x y : Int32} (d : decode code pc = .ok (.ishr, 1))  (hq : pc + 1 = q) (K : Go p l e R s m args below meth c Ph n0 h k n q Ls (.int (x >>> (y &&& 31)) :: st)) : Go p l e R s m args below meth c Ph n0 h k n pc Ls (.int y :: .int x :: st) :=
  Go.pl (fun T t A S => XT.ishr A C.1 rfl (hb C.2.1 d) rfl (by subst hq; exact S)) K
theorem g_iushr (C : Cx p s m meth c Z own nm code ml ret) {x y : Int32} (d : decode code pc = .ok (.iushr, 1))  (hq : pc + 1 = q) (K : Go p l e R s m args below meth c Ph n0 h k n q Ls (.int (XT.ushr x y) :: st)) : Go p l e R s m args below meth c Ph n0 h k n pc Ls (.int y :: .int x :: st) :=
  Go.pl (fun T t A S => XT.iushr A C.1 rfl (hb C.2.1 d) rfl (by subst hq; exact S)) K
theorem g_idiv (C : Cx p s m meth c Z own nm code ml ret) {x y : Int32} (d : decode code pc = .ok (.idiv, 1)) (hy : y ≠ 0) (hq : pc + 1 = q) (K : Go p l e R s m args below meth c Ph n0 h k n q Ls (.int (x / y) :: st)) : Go p l e R s m args below meth c Ph n0 h k n pc Ls (.int y :: .int x :: st) :=
  Go.pl (fun T t A S => XS.idiv A C.1 rfl (hb C.2.1 d) rfl hy (by subst hq; exact S)) K
theorem g_irem (C : Cx p s m meth c Z own nm code ml ret) {x y : Int32} (d : decode code pc = .ok (.irem, 1)) (hy : y ≠ 0) (hq : pc + 1 = q) (K : Go p l e R s m args below meth c Ph n0 h k n q Ls (.int (x % y) :: st)) : Go p l e R s m args below meth c Ph n0 h k n pc Ls (.int y :: .int x :: st) :=
  Go.pl (fun T t A S => XS.irem A C.1 rfl (hb C.2.1 d) rfl hy (by subst hq; rw [irem_eq_mod x y]; exact S)) K
theorem g_ineg (C : Cx p s m meth c Z own nm code ml ret) {x : Int32} (d : decode code pc = .ok (.ineg, 1))  (hq : pc + 1 = q) (K : Go p l e R s m args below meth c Ph n0 h k n q Ls (.int (-x) :: st)) : Go p l e R s m args below meth c Ph n0 h k n pc Ls (.int x :: st) :=
  Go.pl (fun T t A S => XS.ineg A C.1 rfl (hb C.2.1 d) rfl (by subst hq; exact S)) K
theorem g_ladd (C : Cx p s m meth c Z own nm code ml ret) {x y : Int64} (d : decode code pc = .ok (.ladd, 1))  (hq : pc + 1 = q) (K : Go p l e R s m args below meth c Ph n0 h k n q Ls (.long (x + y) :: st)) : Go p l e R s m args below meth c Ph n0 h k n pc Ls (.long y :: .long x :: st) :=
  Go.pl (fun T t A S => XT.ladd A C.1 rfl (hb C.2.1 d) rfl (by subst hq; exact S)) K
theorem g_lsub (C : Cx p s m meth c Z own nm code ml ret) {x y : Int64} (d : decode code pc = .ok (.lsub, 1))  (hq : pc + 1 = q) (K : Go p l e R s m args below meth c Ph n0 h k n q Ls (.long (x - y) :: st)) : Go p l e R s m args below meth c Ph n0 h k n pc Ls (.long y :: .long x :: st) :=
  Go.pl (fun T t A S => XT.lsub A C.1 rfl (hb C.2.1 d) rfl (by subst hq; exact S)) K
theorem g_lmul (C : Cx p s m meth c Z own nm code ml ret) {x y : Int64} (d : decode code pc = .ok (.lmul, 1))  (hq : pc + 1 = q) (K : Go p l e R s m args below meth c Ph n0 h k n q Ls (.long (x * y) :: st)) : Go p l e R s m args below meth c Ph n0 h k n pc Ls (.long y :: .long x :: st) :=
  Go.pl (fun T t A S => XT.lmul A C.1 rfl (hb C.2.1 d) rfl (by subst hq; exact S)) K
theorem g_land (C : Cx p s m meth c Z own nm code ml ret) {x y : Int64} (d : decode code pc = .ok (.land, 1))  (hq : pc + 1 = q) (K : Go p l e R s m args below meth c Ph n0 h k n q Ls (.long (x &&& y) :: st)) : Go p l e R s m args below meth c Ph n0 h k n pc Ls (.long y :: .long x :: st) :=
  Go.pl (fun T t A S => XT.land A C.1 rfl (hb C.2.1 d) rfl (by subst hq; exact S)) K
theorem g_lor (C : Cx p s m meth c Z own nm code ml ret) {x y : Int64} (d : decode code pc = .ok (.lor, 1))  (hq : pc + 1 = q) (K : Go p l e R s m args below meth c Ph n0 h k n q Ls (.long (x ||| y) :: st)) : Go p l e R s m args below meth c Ph n0 h k n pc Ls (.long y :: .long x :: st) :=
  Go.pl (fun T t A S => XT.lor A C.1 rfl (hb C.2.1 d) rfl (by subst hq; exact S)) K
theorem g_lxor (C : Cx p s m meth c Z own nm code ml ret) {x y : Int64} (d : decode code pc = .ok (.lxor, 1))  (hq : pc + 1 = q) (K : Go p l e R s m args below meth c Ph n0 h k n q Ls (.long (x ^^^ y) :: st)) : Go p l e R s m args below meth c Ph n0 h k n pc Ls (.long y :: .long x :: st) :=
  Go.pl (fun T t A S => XT.lxor A C.1 rfl (hb C.2.1 d) rfl (by subst hq; exact S)) K
theorem g_lushr (C : Cx p s m meth c Z own nm code ml ret) {x : Int64} {y : Int32} (d : decode code pc = .ok (.lushr, 1))  (hq : pc + 1 = q) (K : Go p l e R s m args below meth c Ph n0 h k n q Ls (.long (XT.ushrL x y) :: st)) : Go p l e R s m args below meth c Ph n0 h k n pc Ls (.int y :: .long x :: st) :=
  Go.pl (fun T t A S => XT.lushr A C.1 rfl (hb C.2.1 d) rfl (by subst hq; exact S)) K
theorem g_lcmp (C : Cx p s m meth c Z own nm code ml ret) {x y : Int64} (d : decode code pc = .ok (.lcmp, 1))  (hq : pc + 1 = q) (K : Go p l e R s m args below meth c Ph n0 h k n q Ls (.int (XT.cmpL x y) :: st)) : Go p l e R s m args below meth c Ph n0 h k n pc Ls (.long y :: .long x :: st) :=
  Go.pl (fun T t A S => XT.lcmp A C.1 rfl (hb C.2.1 d) rfl (by subst hq; exact S)) K
theorem g_i2l (C : Cx p s m meth c Z own nm code ml ret) {x : Int32} (d : decode code pc = .ok (.i2l, 1))  (hq : pc + 1 = q) (K : Go p l e R s m args below meth c Ph n0 h k n q Ls (.long (x.toInt64) :: st)) : Go p l e R s m args below meth c Ph n0 h k n pc Ls (.int x :: st) :=
  Go.pl (fun T t A S => XT.i2l A C.1 rfl (hb C.2.1 d) rfl (by subst hq; exact S)) K
theorem g_l2i (C : Cx p s m meth c Z own nm code ml ret) {x : Int64} (d : decode code pc = .ok (.l2i, 1))  (hq : pc + 1 = q) (K : Go p l e R s m args below meth c Ph n0 h k n q Ls (.int (x.toInt32) :: st)) : Go p l e R s m args below meth c Ph n0 h k n pc Ls (.long x :: st) :=
  Go.pl (fun T t A S => XT.l2i A C.1 rfl (hb C.2.1 d) rfl (by subst hq; exact S)) K
theorem g_i2b (C : Cx p s m meth c Z own nm code ml ret) {x : Int32} (d : decode code pc = .ok (.i2b, 1))  (hq : pc + 1 = q) (K : Go p l e R s m args below meth c Ph n0 h k n q Ls (.int (x.toInt8.toInt32) :: st)) : Go p l e R s m args below meth c Ph n0 h k n pc Ls (.int x :: st) :=
  Go.pl (fun T t A S => XT.i2b A C.1 rfl (hb C.2.1 d) rfl (by subst hq; exact S)) K
theorem g_i2c (C : Cx p s m meth c Z own nm code ml ret) {x : Int32} (d : decode code pc = .ok (.i2c, 1))  (hq : pc + 1 = q) (K : Go p l e R s m args below meth c Ph n0 h k n q Ls (.int (x.toUInt32.toUInt16.toUInt32.toInt32) :: st)) : Go p l e R s m args below meth c Ph n0 h k n pc Ls (.int x :: st) :=
  Go.pl (fun T t A S => XT.i2c A C.1 rfl (hb C.2.1 d) rfl (by subst hq; exact S)) K
theorem g_i2s (C : Cx p s m meth c Z own nm code ml ret) {x : Int32} (d : decode code pc = .ok (.i2s, 1))  (hq : pc + 1 = q) (K : Go p l e R s m args below meth c Ph n0 h k n q Ls (.int (x.toInt16.toInt32) :: st)) : Go p l e R s m args below meth c Ph n0 h k n pc Ls (.int x :: st) :=
  Go.pl (fun T t A S => XT.i2s A C.1 rfl (hb C.2.1 d) rfl (by subst hq; exact S)) K
theorem g_goto (C : Cx p s m meth c Z own nm code ml ret) {o : Int} (d : decode code pc = .ok (.goto o, 3)) (ho : 0 ≤ (pc : Int) + o) (hq : ((pc : Int) + o).toNat = q) (K : Go p l e R s m args below meth c Ph n0 h k n q Ls st) : Go p l e R s m args below meth c Ph n0 h k n pc Ls st :=
  Go.pl (fun T t A S => XS.goto A C.1 rfl rfl (hb C.2.1 d) ho hq S) K
theorem g_if (C : Cx p s m meth c Z own nm code ml ret) {cd : ClassFile.Cond} {x : Int32} {o : Int} {q' : Nat} (d : decode code pc = .ok (.ifCond cd o, 3)) (ho : 0 ≤ (pc : Int) + o) (hq' : ((pc : Int) + o).toNat = q') (hq : pc + 3 = q)
    (K1 : ifCond.holds cd x = true → Go p l e R s m args below meth c Ph n0 h k n q' Ls st) (K2 : ifCond.holds cd x = false → Go p l e R s m args below meth c Ph n0 h k n q Ls st) : Go p l e R s m args below meth c Ph n0 h k n pc Ls (.int x :: st) := by
  cases hb' : ifCond.holds cd x
  · exact Go.pl (fun T t A S => XS.ifNo A C.1 rfl (hb C.2.1 d) rfl hb' (by subst hq; exact S)) (K2 hb')
  · exact Go.pl (fun T t A S => XS.ifYes A C.1 rfl rfl (hb C.2.1 d) rfl hb' ho hq' S) (K1 hb')
theorem g_icmp (C : Cx p s m meth c Z own nm code ml ret) {cd : ClassFile.Cond} {x y : Int32} {o : Int} {q' : Nat} (d : decode code pc = .ok (.if_icmp cd o, 3)) (ho : 0 ≤ (pc : Int) + o) (hq' : ((pc : Int) + o).toNat = q') (hq : pc + 3 = q)
    (K1 : if_icmp.holds cd x y = true → Go p l e R s m args below meth c Ph n0 h k n q' Ls st) (K2 : if_icmp.holds cd x y = false → Go p l e R s m args below meth c Ph n0 h k n q Ls st) : Go p l e R s m args below meth c Ph n0 h k n pc Ls (.int y :: .int x :: st) := by
  cases hb' : if_icmp.holds cd x y
  · exact Go.pl (fun T t A S => XS.icmpNo A C.1 rfl (hb C.2.1 d) rfl hb' (by subst hq; exact S)) (K2 hb')
  · exact Go.pl (fun T t A S => XS.icmpYes A C.1 rfl rfl (hb C.2.1 d) rfl hb' ho hq' S) (K1 hb')
theorem g_if_eq (C : Cx p s m meth c Z own nm code ml ret) {x : Int32} {o : Int} {q' : Nat} (d : decode code pc = .ok (.ifCond .eq o, 3)) (ho : 0 ≤ (pc : Int) + o) (hq' : ((pc : Int) + o).toNat = q') (hq : pc + 3 = q)
    (K1 : x = 0 → Go p l e R s m args below meth c Ph n0 h k n q' Ls st) (K2 : ¬ x = 0 → Go p l e R s m args below meth c Ph n0 h k n q Ls st) : Go p l e R s m args below meth c Ph n0 h k n pc Ls (.int x :: st) :=
  g_if C d ho hq' hq (fun hh => K1 (by simpa [ifCond.holds, Int32.not_lt, Int32.not_le] using hh)) (fun hh => K2 (by simpa [ifCond.holds, Int32.not_lt, Int32.not_le] using hh))
theorem g_icmp_eq (C : Cx p s m meth c Z own nm code ml ret) {x y : Int32} {o : Int} {q' : Nat} (d : decode code pc = .ok (.if_icmp .eq o, 3)) (ho : 0 ≤ (pc : Int) + o) (hq' : ((pc : Int) + o).toNat = q') (hq : pc + 3 = q)
    (K1 : x = y → Go p l e R s m args below meth c Ph n0 h k n q' Ls st) (K2 : ¬ x = y → Go p l e R s m args below meth c Ph n0 h k n q Ls st) : Go p l e R s m args below meth c Ph n0 h k n pc Ls (.int y :: .int x :: st) :=
  g_icmp C d ho hq' hq (fun hh => K1 (by simpa [if_icmp.holds, Int32.not_lt, Int32.not_le] using hh)) (fun hh => K2 (by simpa [if_icmp.holds, Int32.not_lt, Int32.not_le] using hh))
theorem g_if_ne (C : Cx p s m meth c Z own nm code ml ret) {x : Int32} {o : Int} {q' : Nat} (d : decode code pc = .ok (.ifCond .ne o, 3)) (ho : 0 ≤ (pc : Int) + o) (hq' : ((pc : Int) + o).toNat = q') (hq : pc + 3 = q)
    (K1 : ¬ x = 0 → Go p l e R s m args below meth c Ph n0 h k n q' Ls st) (K2 : x = 0 → Go p l e R s m args below meth c Ph n0 h k n q Ls st) : Go p l e R s m args below meth c Ph n0 h k n pc Ls (.int x :: st) :=
  g_if C d ho hq' hq (fun hh => K1 (by simpa [ifCond.holds, Int32.not_lt, Int32.not_le] using hh)) (fun hh => K2 (by simpa [ifCond.holds, Int32.not_lt, Int32.not_le] using hh))
theorem g_icmp_ne (C : Cx p s m meth c Z own nm code ml ret) {x y : Int32} {o : Int} {q' : Nat} (d : decode code pc = .ok (.if_icmp .ne o, 3)) (ho : 0 ≤ (pc : Int) + o) (hq' : ((pc : Int) + o).toNat = q') (hq : pc + 3 = q)
    (K1 : ¬ x = y → Go p l e R s m args below meth c Ph n0 h k n q' Ls st) (K2 : x = y → Go p l e R s m args below meth c Ph n0 h k n q Ls st) : Go p l e R s m args below meth c Ph n0 h k n pc Ls (.int y :: .int x :: st) :=
  g_icmp C d ho hq' hq (fun hh => K1 (by simpa [if_icmp.holds, Int32.not_lt, Int32.not_le] using hh)) (fun hh => K2 (by simpa [if_icmp.holds, Int32.not_lt, Int32.not_le] using hh))
theorem g_if_lt (C : Cx p s m meth c Z own nm code ml ret) {x : Int32} {o : Int} {q' : Nat} (d : decode code pc = .ok (.ifCond .lt o, 3)) (ho : 0 ≤ (pc : Int) + o) (hq' : ((pc : Int) + o).toNat = q') (hq : pc + 3 = q)
    (K1 : x < 0 → Go p l e R s m args below meth c Ph n0 h k n q' Ls st) (K2 : ¬ x < 0 → Go p l e R s m args below meth c Ph n0 h k n q Ls st) : Go p l e R s m args below meth c Ph n0 h k n pc Ls (.int x :: st) :=
  g_if C d ho hq' hq (fun hh => K1 (by simpa [ifCond.holds, Int32.not_lt, Int32.not_le] using hh)) (fun hh => K2 (by simpa [ifCond.holds, Int32.not_lt, Int32.not_le] using hh))
theorem g_icmp_lt (C : Cx p s m meth c Z own nm code ml ret) {x y : Int32} {o : Int} {q' : Nat} (d : decode code pc = .ok (.if_icmp .lt o, 3)) (ho : 0 ≤ (pc : Int) + o) (hq' : ((pc : Int) + o).toNat = q') (hq : pc + 3 = q)
    (K1 : x < y → Go p l e R s m args below meth c Ph n0 h k n q' Ls st) (K2 : ¬ x < y → Go p l e R s m args below meth c Ph n0 h k n q Ls st) : Go p l e R s m args below meth c Ph n0 h k n pc Ls (.int y :: .int x :: st) :=
  g_icmp C d ho hq' hq (fun hh => K1 (by simpa [if_icmp.holds, Int32.not_lt, Int32.not_le] using hh)) (fun hh => K2 (by simpa [if_icmp.holds, Int32.not_lt, Int32.not_le] using hh))
theorem g_if_ge (C : Cx p s m meth c Z own nm code ml ret) {x : Int32} {o : Int} {q' : Nat} (d : decode code pc = .ok (.ifCond .ge o, 3)) (ho : 0 ≤ (pc : Int) + o) (hq' : ((pc : Int) + o).toNat = q') (hq : pc + 3 = q)
    (K1 : ¬ x < 0 → Go p l e R s m args below meth c Ph n0 h k n q' Ls st) (K2 : x < 0 → Go p l e R s m args below meth c Ph n0 h k n q Ls st) : Go p l e R s m args below meth c Ph n0 h k n pc Ls (.int x :: st) :=
  g_if C d ho hq' hq (fun hh => K1 (by simpa [ifCond.holds, Int32.not_lt, Int32.not_le] using hh)) (fun hh => K2 (by simpa [ifCond.holds, Int32.not_lt, Int32.not_le] using hh))
theorem g_icmp_ge (C : Cx p s m meth c Z own nm code ml ret) {x y : Int32} {o : Int} {q' : Nat} (d : decode code pc = .ok (.if_icmp .ge o, 3)) (ho : 0 ≤ (pc : Int) + o) (hq' : ((pc : Int) + o).toNat = q') (hq : pc + 3 = q)
    (K1 : ¬ x < y → Go p l e R s m args below meth c Ph n0 h k n q' Ls st) (K2 : x < y → Go p l e R s m args below meth c Ph n0 h k n q Ls st) : Go p l e R s m args below meth c Ph n0 h k n pc Ls (.int y :: .int x :: st) :=
  g_icmp C d ho hq' hq (fun hh => K1 (by simpa [if_icmp.holds, Int32.not_lt, Int32.not_le] using hh)) (fun hh => K2 (by simpa [if_icmp.holds, Int32.not_lt, Int32.not_le] using hh))
theorem g_if_gt (C : Cx p s m meth c Z own nm code ml ret) {x : Int32} {o : Int} {q' : Nat} (d : decode code pc = .ok (.ifCond .gt o, 3)) (ho : 0 ≤ (pc : Int) + o) (hq' : ((pc : Int) + o).toNat = q') (hq : pc + 3 = q)
    (K1 : 0 < x → Go p l e R s m args below meth c Ph n0 h k n q' Ls st) (K2 : ¬ 0 < x → Go p l e R s m args below meth c Ph n0 h k n q Ls st) : Go p l e R s m args below meth c Ph n0 h k n pc Ls (.int x :: st) :=
  g_if C d ho hq' hq (fun hh => K1 (by simpa [ifCond.holds, Int32.not_lt, Int32.not_le] using hh)) (fun hh => K2 (by simpa [ifCond.holds, Int32.not_lt, Int32.not_le] using hh))
theorem g_icmp_gt (C : Cx p s m meth c Z own nm code ml ret) {x y : Int32} {o : Int} {q' : Nat} (d : decode code pc = .ok (.if_icmp .gt o, 3)) (ho : 0 ≤ (pc : Int) + o) (hq' : ((pc : Int) + o).toNat = q') (hq : pc + 3 = q)
    (K1 : y < x → Go p l e R s m args below meth c Ph n0 h k n q' Ls st) (K2 : ¬ y < x → Go p l e R s m args below meth c Ph n0 h k n q Ls st) : Go p l e R s m args below meth c Ph n0 h k n pc Ls (.int y :: .int x :: st) :=
  g_icmp C d ho hq' hq (fun hh => K1 (by simpa [if_icmp.holds, Int32.not_lt, Int32.not_le] using hh)) (fun hh => K2 (by simpa [if_icmp.holds, Int32.not_lt, Int32.not_le] using hh))
theorem g_if_le (C : Cx p s m meth c Z own nm code ml ret) {x : Int32} {o : Int} {q' : Nat} (d : decode code pc = .ok (.ifCond .le o, 3)) (ho : 0 ≤ (pc : Int) + o) (hq' : ((pc : Int) + o).toNat = q') (hq : pc + 3 = q)
    (K1 : ¬ 0 < x → Go p l e R s m args below meth c Ph n0 h k n q' Ls st) (K2 : 0 < x → Go p l e R s m args below meth c Ph n0 h k n q Ls st) : Go p l e R s m args below meth c Ph n0 h k n pc Ls (.int x :: st) :=
  g_if C d ho hq' hq (fun hh => K1 (by simpa [ifCond.holds, Int32.not_lt, Int32.not_le] using hh)) (fun hh => K2 (by simpa [ifCond.holds, Int32.not_lt, Int32.not_le] using hh))
theorem g_icmp_le (C : Cx p s m meth c Z own nm code ml ret) {x y : Int32} {o : Int} {q' : Nat} (d : decode code pc = .ok (.if_icmp .le o, 3)) (ho : 0 ≤ (pc : Int) + o) (hq' : ((pc : Int) + o).toNat = q') (hq : pc + 3 = q)
    (K1 : ¬ y < x → Go p l e R s m args below meth c Ph n0 h k n q' Ls st) (K2 : y < x → Go p l e R s m args below meth c Ph n0 h k n q Ls st) : Go p l e R s m args below meth c Ph n0 h k n pc Ls (.int y :: .int x :: st) :=
  g_icmp C d ho hq' hq (fun hh => K1 (by simpa [if_icmp.holds, Int32.not_lt, Int32.not_le] using hh)) (fun hh => K2 (by simpa [if_icmp.holds, Int32.not_lt, Int32.not_le] using hh))
theorem g_ifnullY (C : Cx p s m meth c Z own nm code ml ret) {a : Addr} {o : Int} (d : decode code pc = .ok (.ifnull o, 3)) (ho : 0 ≤ (pc : Int) + o) (hq : ((pc : Int) + o).toNat = q) (K : Go p l e R s m args below meth c Ph n0 h k n q Ls st) : Go p l e R s m args below meth c Ph n0 h k n pc Ls (.null :: st) :=
  Go.pl (fun T t A S => XS.ifnullYes A C.1 rfl rfl (hb C.2.1 d) rfl ho hq S) K
theorem g_ifnullN (C : Cx p s m meth c Z own nm code ml ret) {a : Addr} {o : Int} (d : decode code pc = .ok (.ifnull o, 3)) (hq : pc + 3 = q) (K : Go p l e R s m args below meth c Ph n0 h k n q Ls st) : Go p l e R s m args below meth c Ph n0 h k n pc Ls (.ref a :: st) :=
  Go.pl (fun T t A S => XS.ifnullNo A C.1 rfl (hb C.2.1 d) rfl (by subst hq; exact S)) K
theorem g_ifnonnullY (C : Cx p s m meth c Z own nm code ml ret) {a : Addr} {o : Int} (d : decode code pc = .ok (.ifnonnull o, 3)) (ho : 0 ≤ (pc : Int) + o) (hq : ((pc : Int) + o).toNat = q) (K : Go p l e R s m args below meth c Ph n0 h k n q Ls st) : Go p l e R s m args below meth c Ph n0 h k n pc Ls (.ref a :: st) :=
  Go.pl (fun T t A S => XT.ifnonnullYes A C.1 rfl rfl (hb C.2.1 d) rfl ho hq S) K
theorem g_ifnonnullN (C : Cx p s m meth c Z own nm code ml ret) {a : Addr} {o : Int} (d : decode code pc = .ok (.ifnonnull o, 3)) (hq : pc + 3 = q) (K : Go p l e R s m args below meth c Ph n0 h k n q Ls st) : Go p l e R s m args below meth c Ph n0 h k n pc Ls (.null :: st) :=
  Go.pl (fun T t A S => XT.ifnonnullNo A C.1 rfl (hb C.2.1 d) rfl (by subst hq; exact S)) K
theorem g_acmp_eq (C : Cx p s m meth c Z own nm code ml ret) {x y : Value} {o : Int} {q' : Nat} (d : decode code pc = .ok (.if_acmp .eq o, 3)) (hx' : x.isRef = true) (hy' : y.isRef = true) (ho : 0 ≤ (pc : Int) + o) (hq' : ((pc : Int) + o).toNat = q') (hq : pc + 3 = q)
    (K1 : x = y → Go p l e R s m args below meth c Ph n0 h k n q' Ls st) (K2 : ¬ x = y → Go p l e R s m args below meth c Ph n0 h k n q Ls st) : Go p l e R s m args below meth c Ph n0 h k n pc Ls (y :: x :: st) := by
  by_cases hh : x = y
  · exact Go.pl (fun T t A S => XT.acmpYes A C.1 rfl rfl (hb C.2.1 d) rfl hx' hy' (by simpa [XT.acmp] using hh) ho hq' S) (K1 hh)
  · exact Go.pl (fun T t A S => XT.acmpNo A C.1 rfl (hb C.2.1 d) rfl hx' hy' (by simpa [XT.acmp] using hh) (by subst hq; exact S)) (K2 (by simpa using hh))
theorem g_acmp_ne (C : Cx p s m meth c Z own nm code ml ret) {x y : Value} {o : Int} {q' : Nat} (d : decode code pc = .ok (.if_acmp .ne o, 3)) (hx' : x.isRef = true) (hy' : y.isRef = true) (ho : 0 ≤ (pc : Int) + o) (hq' : ((pc : Int) + o).toNat = q') (hq : pc + 3 = q)
    (K1 : ¬ x = y → Go p l e R s m args below meth c Ph n0 h k n q' Ls st) (K2 : x = y → Go p l e R s m args below meth c Ph n0 h k n q Ls st) : Go p l e R s m args below meth c Ph n0 h k n pc Ls (y :: x :: st) := by
  by_cases hh : ¬ x = y
  · exact Go.pl (fun T t A S => XT.acmpYes A C.1 rfl rfl (hb C.2.1 d) rfl hx' hy' (by simpa [XT.acmp] using hh) ho hq' S) (K1 hh)
  · exact Go.pl (fun T t A S => XT.acmpNo A C.1 rfl (hb C.2.1 d) rfl hx' hy' (by simpa [XT.acmp] using hh) (by subst hq; exact S)) (K2 (by simpa using hh))
theorem g_getf (C : Cx p s m meth c Z own nm code ml ret) {R0 O f d' host : String} {index : Nat} {a : Addr} {v : Value} (d : decode code pc = .ok (.getfield index, 3)) (w : (Cond.fieldLink own index R0 f d').before a0 Z = true ∨ (Cond.fieldLinkNest own index R0 f d' host).before a0 Z = true) (via : Via Z R0 O f d') (F : Fld Z h a O f d' v) (hq : pc + 3 = q)
    (K : Go p l e R s m args below meth c Ph n0 h k n q Ls (v :: st)) : Go p l e R s m args below meth c Ph n0 h k n pc Ls (.ref a :: st) := fun T locs X N eT => by
  obtain ⟨T', X', e', stp⟩ := getF X C.1 C.2.2.2.2.1 C.2.2.2.1 w via eT F (g := mkF m pc Ls (.ref a :: st)) rfl rfl (hb C.2.1 d)
  obtain ⟨s₂, v, S, r⟩ := K T' locs X' N e'
  exact ⟨s₂, v, stp _ (by subst hq; exact S), r⟩
theorem g_gets (C : Cx p s m meth c Z own nm code ml ret) {R0 O f d' host : String} {index : Nat} {v : Value} (d : decode code pc = .ok (.getstatic index, 3)) (w : (Cond.fieldLink own index R0 f d').before a0 Z = true ∨ (Cond.fieldLinkNest own index R0 f d' host).before a0 Z = true) (via : Via Z R0 O f d') (F : Sta Z h O f d' v) (hq : pc + 3 = q)
    (K : Go p l e R s m args below meth c Ph n0 h k n q Ls (v :: st)) : Go p l e R s m args below meth c Ph n0 h k n pc Ls st := fun T locs X N eT => by
  obtain ⟨T', X', e', stp⟩ := getS2 X C.1 C.2.2.2.2.1 C.2.2.2.1 w via eT F (g := mkF m pc Ls st) rfl (hb C.2.1 d)
  obtain ⟨s₂, v, S, r⟩ := K T' locs X' N e'
  exact ⟨s₂, v, stp _ (by subst hq; exact S), r⟩
theorem g_putf (C : Cx p s m meth c Z own nm code ml ret) {R0 O f d' host Cl : String} {index kk : Nat} {a : Addr} {v old : Value} {ty : FieldType} (d : decode code pc = .ok (.putfield index, 3)) (w : (Cond.fieldLink own index R0 f d').before a0 Z = true ∨ (Cond.fieldLinkNest own index R0 f d' host).before a0 Z = true) (via : Via Z R0 O f d') (F : Fld Z h a O f d' old) (E : Exa Z h a Cl)
    (L : (Cond.lays Cl O f d').before a0 Z = true ∨ ((Cond.laysFinal Cl O f d').before a0 Z = true ∧ own = O ∧ nm = "<init>")) (wi : (Cond.instantiable Cl kk).before a0 Z = true) (hty : parseFieldDescriptor d' = some ty) (hn : narrow ty v = v) (hf : fits ty v = true) (ha : n0 ≤ a) (hq : pc + 3 = q)
    (K : ∀ h', Wr h h' a (Jvm.RoadKit.slotOf Z O f d') v → Go p l e R s m args below meth c Ph n0 h' k n q Ls st) : Go p l e R s m args below meth c Ph n0 h k n pc Ls (v :: .ref a :: st) := fun T locs X N eT => by
  obtain ⟨T', h', X', e', W, stp⟩ := putF X C.1 C.2.2.2.2.1 C.2.2.2.1 w via eT F E (L.imp id fun q => ⟨q.1, q.2.1, C.2.2.2.2.2.1.trans q.2.2⟩) wi hty hn hf (g := mkF m pc Ls (v :: .ref a :: st)) rfl rfl (hb C.2.1 d)
  obtain ⟨s₂, v, S, r⟩ := K h' W T' _ X' (Fr.snoc X' N ha) e'
  exact ⟨s₂, v, stp _ (by subst hq; exact S), r⟩
theorem g_new (C : Cx p s m meth c Z own nm code ml ret) {Cl : String} {index nn : Nat} (d : decode code pc = .ok (.new index, 3)) (w : (Cond.classLink own index Cl).before a0 Z = true) (wi : (Cond.instantiable Cl nn).before a0 Z = true) (wz : (Cond.initialized Cl).before a0 Z = true) (hc : k + 1 ≤ R.cells) (hl : n + nn ≤ R.slots) (hq : pc + 3 = q)
    (K : ∀ (a : Addr) (h' : Heap), a = h.size → Ext h h' → Exa Z h' a Cl → (∀ {O f d' : String} {ty : FieldType}, Laid Z a0 Cl O f d' → parseFieldDescriptor d' = some ty → Fld Z h' a O f d' (defaultValue ty)) → Go p l e R s m args below meth c Ph n0 h' (k + 1) (n + nn) q Ls (.ref a :: st)) : Go p l e R s m args below meth c Ph n0 h k n pc Ls st := fun T locs X N eT => by
  obtain ⟨T', h', X', e', E, A, D, -, stp⟩ := newO X C.1 C.2.2.2.2.1 C.2.2.2.1 w wi wz eT (g := mkF m pc Ls st) rfl (hb C.2.1 d) hc hl
  obtain ⟨s₂, v, S, r⟩ := K _ h' rfl E A D T' locs X' N e'
  exact ⟨s₂, v, stp _ (by subst hq; exact S), r⟩
theorem g_newarray (C : Cx p s m meth c Z own nm code ml ret) {aty : ArrayType} {N' : Int32} {cap : Nat} (d : decode code pc = .ok (.newarray aty, 2)) (w : (Cond.arrayClass (newarray.typeOf aty)).before a0 Z = true) (hn : ¬ N' < 0) (hcap : N'.toNatClampNeg ≤ cap) (hbg : cap * 8 ≤ 536870912) (hc : k + 1 ≤ R.cells) (hl : n + cap ≤ R.slots) (hq : pc + 2 = q)
    (K : ∀ (a : Addr) (h' : Heap) (cA : ClassId), a = h.size → Ext h h' → Arr Z h' a (newA cA (newarray.typeOf aty) N') (newarray.typeOf aty) → Go p l e R s m args below meth c Ph n0 h' (k + 1) (n + cap) q Ls (.ref a :: st)) : Go p l e R s m args below meth c Ph n0 h k n pc Ls (.int N' :: st) := fun T locs X N eT => by
  obtain ⟨T', h', cA, X', e', E, A, stp⟩ := newP X C.1 C.2.2.2.2.1 w eT (g := mkF m pc Ls (.int N' :: st)) rfl (hb C.2.1 d) rfl hn hcap hbg hc hl
  obtain ⟨s₂, v, S, r⟩ := K _ h' cA rfl E A T' locs X' N e'
  exact ⟨s₂, v, stp _ (by subst hq; exact S), r⟩
theorem g_anewarray (C : Cx p s m meth c Z own nm code ml ret) {Cl : String} {index : Nat} {N' : Int32} {cap : Nat} (d : decode code pc = .ok (.anewarray index, 3)) (w1 : (Cond.classLink own index Cl).before a0 Z = true) (w2 : (Cond.arrayOver (.object Cl)).before a0 Z = true) (hn : ¬ N' < 0) (hcap : N'.toNatClampNeg ≤ cap) (hbg : cap * 8 ≤ 536870912) (hc : k + 1 ≤ R.cells) (hl : n + cap ≤ R.slots) (hq : pc + 3 = q)
    (K : ∀ (a : Addr) (h' : Heap) (cA : ClassId), a = h.size → Ext h h' → Arr Z h' a (newA cA (.object Cl) N') (.object Cl) → Ovr Z cA Cl → Go p l e R s m args below meth c Ph n0 h' (k + 1) (n + cap) q Ls (.ref a :: st)) : Go p l e R s m args below meth c Ph n0 h k n pc Ls (.int N' :: st) := fun T locs X N eT => by
  obtain ⟨T', h', cA, X', e', E, A, O, stp⟩ := newR X C.1 C.2.2.2.2.1 C.2.2.2.1 w1 w2 eT (g := mkF m pc Ls (.int N' :: st)) rfl (hb C.2.1 d) rfl hn hcap hbg hc hl
  obtain ⟨s₂, v, S, r⟩ := K _ h' cA rfl E A O T' locs X' N e'
  exact ⟨s₂, v, stp _ (by subst hq; exact S), r⟩
theorem g_initO (C : Cx p s m meth c Z own nm code ml ret) {idx : Nat} {a : Addr} {W : Nat} (d : decode code pc = .ok (.invokespecial idx, 3)) (w1 : (Cond.methodLink own idx Lib.objectInit).before a0 Z = true) (w2 : (Cond.instanceMethod Lib.objectInit).before a0 Z = true) (w3 : (Cond.code Lib.objectInit ⟨#[0xb1]⟩ 1 none).before a0 Z = true)
    (hsz : Ls.size = ml) (hf : 1 ≤ R.frames) (hW : (st.map fun v => v.category).sum = W) (hl : W + 12 ≤ R.locals) (hq : pc + 3 = q) (K : Go p l e R s m args below meth c Ph n0 h k n q Ls st) : Go p l e R s m args below meth c Ph n0 h k n pc Ls (.ref a :: st) := fun T locs X N eT => by
  obtain ⟨T', X', e', stp⟩ := initO X C.1 C.2.2.2.2.1 C.2.2.2.1 w1 w2 w3 eT (g := mkF m pc Ls (.ref a :: st)) rfl (hsz.trans C.2.2.1.symm) rfl (hb C.2.1 d) hf (W := W) (by show 2 * 0 + _ ≤ _; rw [hW]; omega) hl
  obtain ⟨s₂, v, S, r⟩ := K T' locs X' N e'
  exact ⟨s₂, v, stp _ (by subst hq; exact S), r⟩
theorem g_castY (C : Cx p s m meth c Z own nm code ml ret) {K' : String} {index : Nat} {a : Addr} (d : decode code pc = .ok (.checkcast index, 3)) (w : (Cond.classLink own index K').before a0 Z = true) (F : Ins Z h a K' true) (hq : pc + 3 = q) (K : Go p l e R s m args below meth c Ph n0 h k n q Ls (.ref a :: st)) : Go p l e R s m args below meth c Ph n0 h k n pc Ls (.ref a :: st) := fun T locs X N eT => by
  obtain ⟨T', X', e', stp⟩ := castY X C.1 C.2.2.2.2.1 C.2.2.2.1 w eT F (g := mkF m pc Ls (.ref a :: st)) rfl rfl (hb C.2.1 d)
  obtain ⟨s₂, v, S, r⟩ := K T' locs X' N e'
  exact ⟨s₂, v, stp _ (by subst hq; exact S), r⟩
theorem g_instY (C : Cx p s m meth c Z own nm code ml ret) {K' : String} {index : Nat} {a : Addr} (d : decode code pc = .ok (.instanceof index, 3)) (w : (Cond.classLink own index K').before a0 Z = true) (F : Ins Z h a K' true) (hq : pc + 3 = q) (K : Go p l e R s m args below meth c Ph n0 h k n q Ls (.int 1 :: st)) : Go p l e R s m args below meth c Ph n0 h k n pc Ls (.ref a :: st) := fun T locs X N eT => by
  obtain ⟨T', X', e', stp⟩ := instY X C.1 C.2.2.2.2.1 C.2.2.2.1 w eT F (g := mkF m pc Ls (.ref a :: st)) rfl rfl (hb C.2.1 d)
  obtain ⟨s₂, v, S, r⟩ := K T' locs X' N e'
  exact ⟨s₂, v, stp _ (by subst hq; exact S), r⟩
theorem g_ldcInt (C : Cx p s m meth c Z own nm code ml ret) {index : Nat} {v : Int32} (d : decode code pc = .ok (.ldc index, 2)) (w : (Cond.constant own index v).before a0 Z = true) (hq : pc + 2 = q) (K : Go p l e R s m args below meth c Ph n0 h k n q Ls (.int v :: st)) : Go p l e R s m args below meth c Ph n0 h k n pc Ls st := fun T locs X N eT => by
  obtain ⟨s₂, v', S, r⟩ := K T locs X N eT
  exact ⟨s₂, v', X.ldcInt C.1 C.2.2.2.1 (mvT C.2.2.2.2.1 w) (g := mkF m pc Ls st) rfl (hb C.2.1 d) _ (by subst hq; exact S), r⟩
theorem g_ldc2Long (C : Cx p s m meth c Z own nm code ml ret) {index : Nat} {v : Int64} (d : decode code pc = .ok (.ldc2_w index, 3)) (w : (Cond.constantLong own index v).before a0 Z = true) (hq : pc + 3 = q) (K : Go p l e R s m args below meth c Ph n0 h k n q Ls (.long v :: st)) : Go p l e R s m args below meth c Ph n0 h k n pc Ls st := fun T locs X N eT => by
  obtain ⟨s₂, v', S, r⟩ := K T locs X N eT
  exact ⟨s₂, v', X.ldc2Long C.1 C.2.2.2.1 (mvT C.2.2.2.2.1 w) (g := mkF m pc Ls st) rfl (hb C.2.1 d) _ (by subst hq; exact S), r⟩
/-- an array of N places; place j holds f j -/
def Av (Z : State) (h : Heap) (a : Addr) (ty : FieldType) (N : Nat) (f : Nat → Value) : Prop := ∃ c : Cell, Arr Z h a c ty ∧ c.slots.size = N ∧ N < 2 ^ 31 ∧ ∀ j, j < N → c.slots[j]? = some (f j)
theorem Av.ext {h' : Heap} {a : Addr} {ty : FieldType} {N : Nat} {f : Nat → Value} (A : Av Z h a ty N f) (E : Ext h h') : Av Z h' a ty N f := by obtain ⟨c, A, r⟩ := A; exact ⟨c, A.ext E, r⟩
theorem Av.lt {a : Addr} {ty : FieldType} {N : Nat} {f : Nat → Value} (A : Av Z h a ty N f) : a < h.size := by obtain ⟨c, A, r⟩ := A; exact A.lt
theorem Av.other {h' : Heap} {a b : Addr} {ty : FieldType} {N sl : Nat} {v : Value} {f : Nat → Value} (A : Av Z h b ty N f) (W : Wr h h' a sl v) (ne : b ≠ a) : Av Z h' b ty N f := by obtain ⟨c, A, r⟩ := A; exact ⟨c, A.other W ne, r⟩
theorem Av.keep {h' : Heap} {a : Addr} {ty : FieldType} {N : Nat} {f : Nat → Value} {ws : List Addr} (A : Av Z h a ty N f) (K : Keep h h' ws) (ne : a ∉ ws) : Av Z h' a ty N f := by obtain ⟨c, A, r⟩ := A; exact ⟨c, ⟨K.2.1 a c A.1 ne, A.2⟩, r⟩
theorem Av.congr {a : Addr} {ty : FieldType} {N : Nat} {f g : Nat → Value} (A : Av Z h a ty N f) (hfg : ∀ j, j < N → f j = g j) : Av Z h a ty N g := by obtain ⟨c, A, r1, r2, r3⟩ := A; exact ⟨c, A, r1, r2, fun j hj => by rw [r3 j hj, hfg j hj]⟩
theorem Av.set {h' : Heap} {a : Addr} {ty : FieldType} {N i : Nat} {v : Value} {f : Nat → Value} (A : Av Z h a ty N f) (W : Wr h h' a i v) (hi : i < N) : Av Z h' a ty N (fun j => if j = i then v else f j) := by
  obtain ⟨c, A, r1, r2, r3⟩ := A
  refine ⟨c.setSlot i v, A.same W, by rw [sz_set]; exact r1, r2, fun j hj => ?_⟩
  by_cases e : j = i
  · subst e; simp [Cell.setSlot, r1, hi]
  · show (c.setSlot i v).slots[j]? = some (if j = i then v else f j)
    rw [if_neg e, ← r3 j hj]; simp [Cell.setSlot, Array.getElem?_setIfInBounds_ne (Ne.symm e)]
theorem Av.new {a : Addr} {ty : FieldType} {cA : ClassId} {N' : Int32} (A : Arr Z h a (newA cA ty N') ty) (hn : ¬ N' < 0) : Av Z h a ty N'.toNatClampNeg (fun _ => defaultValue ty) :=
  ⟨_, A, sz_new _ _ _, (back32 hn).2, fun j hj => by simp [newA, hj]⟩
theorem Av.ne_exa {a b : Addr} {ty : FieldType} {N kk : Nat} {f : Nat → Value} {Cl : String} (A : Av Z h a ty N f) (E : Exa Z h b Cl) (wi : (Cond.instantiable Cl kk).before a0 Z = true) : a ≠ b := by obtain ⟨c, A, r⟩ := A; exact Ne.symm (ne_arr E wi A)
theorem i32_idx {i N : Nat} (hi : i < N) (hN : N < 2 ^ 31) {c : Cell} (hc : c.slots.size = N) : (¬ (Int32.ofNat i < 0 ∨ c.slots.size ≤ (Int32.ofNat i).toNatClampNeg)) ∧ (Int32.ofNat i).toNatClampNeg = i := by
  have e : (Int32.ofNat i).toNatClampNeg = i := Int32.toNatClampNeg_ofNat_of_lt (by omega)
  refine ⟨?_, e⟩
  rw [e, hc]
  rintro (q | q)
  · have := Int32.lt_iff_toInt_lt.mp q
    rw [Int32.toInt_ofNat_of_lt (by omega)] at this
    simp at this
    omega
  · omega
theorem g_iaload (C : Cx p s m meth c Z own nm code ml ret) {a : Addr} {N i : Nat} {f : Nat → Value} {j : Int32} {v : Value} (d : decode code pc = .ok (.iaload, 1)) (A : Av Z h a .int N f) (hi : i < N) (hj : j = Int32.ofNat i) (hv : f i = v) (hq : pc + 1 = q) (K : Go p l e R s m args below meth c Ph n0 h k n q Ls (v :: st)) : Go p l e R s m args below meth c Ph n0 h k n pc Ls (.int j :: .ref a :: st) := fun T locs X N' eT => by
  obtain ⟨c', A, r1, r2, r3⟩ := A
  obtain ⟨g1, g2⟩ := i32_idx hi r2 r1
  obtain ⟨s₂, v', S, r⟩ := K T locs X N' eT
  subst hj hv
  exact ⟨s₂, v', X.iaload C.1 (by rw [eT]; exact A.1) (State.isArrayOf_alike C.2.2.2.2.1.alike A.2.1) A.2.2 g1 (by rw [g2]; exact r3 i hi) (g := mkF m pc Ls _) rfl rfl (hb C.2.1 d) _ (by subst hq; exact S), r⟩
theorem g_laload (C : Cx p s m meth c Z own nm code ml ret) {a : Addr} {N i : Nat} {f : Nat → Value} {j : Int32} {v : Value} (d : decode code pc = .ok (.laload, 1)) (A : Av Z h a .long N f) (hi : i < N) (hj : j = Int32.ofNat i) (hv : f i = v) (hq : pc + 1 = q) (K : Go p l e R s m args below meth c Ph n0 h k n q Ls (v :: st)) : Go p l e R s m args below meth c Ph n0 h k n pc Ls (.int j :: .ref a :: st) := fun T locs X N' eT => by
  obtain ⟨c', A, r1, r2, r3⟩ := A
  obtain ⟨g1, g2⟩ := i32_idx hi r2 r1
  obtain ⟨s₂, v', S, r⟩ := K T locs X N' eT
  subst hj hv
  exact ⟨s₂, v', X.laload C.1 (by rw [eT]; exact A.1) (State.isArrayOf_alike C.2.2.2.2.1.alike A.2.1) A.2.2 g1 (by rw [g2]; exact r3 i hi) (g := mkF m pc Ls _) rfl rfl (hb C.2.1 d) _ (by subst hq; exact S), r⟩
theorem g_caload (C : Cx p s m meth c Z own nm code ml ret) {a : Addr} {N i : Nat} {f : Nat → Value} {j : Int32} {v : Value} (d : decode code pc = .ok (.caload, 1)) (A : Av Z h a .char N f) (hi : i < N) (hj : j = Int32.ofNat i) (hv : f i = v) (hq : pc + 1 = q) (K : Go p l e R s m args below meth c Ph n0 h k n q Ls (v :: st)) : Go p l e R s m args below meth c Ph n0 h k n pc Ls (.int j :: .ref a :: st) := fun T locs X N' eT => by
  obtain ⟨c', A, r1, r2, r3⟩ := A
  obtain ⟨g1, g2⟩ := i32_idx hi r2 r1
  obtain ⟨s₂, v', S, r⟩ := K T locs X N' eT
  subst hj hv
  exact ⟨s₂, v', X.caload C.1 (by rw [eT]; exact A.1) (State.isArrayOf_alike C.2.2.2.2.1.alike A.2.1) A.2.2 g1 (by rw [g2]; exact r3 i hi) (g := mkF m pc Ls _) rfl rfl (hb C.2.1 d) _ (by subst hq; exact S), r⟩
theorem g_baload (C : Cx p s m meth c Z own nm code ml ret) {a : Addr} {N i : Nat} {f : Nat → Value} {j : Int32} {v : Value} (d : decode code pc = .ok (.baload, 1)) (A : Av Z h a .byte N f) (hi : i < N) (hj : j = Int32.ofNat i) (hv : f i = v) (hq : pc + 1 = q) (K : Go p l e R s m args below meth c Ph n0 h k n q Ls (v :: st)) : Go p l e R s m args below meth c Ph n0 h k n pc Ls (.int j :: .ref a :: st) := fun T locs X N' eT => by
  obtain ⟨c', A, r1, r2, r3⟩ := A
  obtain ⟨g1, g2⟩ := i32_idx hi r2 r1
  obtain ⟨s₂, v', S, r⟩ := K T locs X N' eT
  subst hj hv
  exact ⟨s₂, v', X.baloadBytes C.1 (by rw [eT]; exact A.1) (State.isArrayOf_alike C.2.2.2.2.1.alike A.2.1) A.2.2 g1 (by rw [g2]; exact r3 i hi) (g := mkF m pc Ls _) rfl rfl (hb C.2.1 d) _ (by subst hq; exact S), r⟩
theorem g_aaload (C : Cx p s m meth c Z own nm code ml ret) {a : Addr} {N i : Nat} {f : Nat → Value} {j : Int32} {v : Value} {ty : FieldType} (d : decode code pc = .ok (.aaload, 1)) (A : Av Z h a ty N f) (hty : ty.isReference = true) (hi : i < N) (hj : j = Int32.ofNat i) (hv : f i = v) (hq : pc + 1 = q) (K : Go p l e R s m args below meth c Ph n0 h k n q Ls (v :: st)) : Go p l e R s m args below meth c Ph n0 h k n pc Ls (.int j :: .ref a :: st) := fun T locs X N' eT => by
  obtain ⟨c', A, r1, r2, r3⟩ := A
  obtain ⟨g1, g2⟩ := i32_idx hi r2 r1
  obtain ⟨s₂, v', S, r⟩ := K T locs X N' eT
  subst hj hv
  exact ⟨s₂, v', X.aaload C.1 (by rw [eT]; exact A.1) (State.isArrayOf_alike C.2.2.2.2.1.alike A.2.1) hty A.2.2 g1 (by rw [g2]; exact r3 i hi) (g := mkF m pc Ls _) rfl rfl (hb C.2.1 d) _ (by subst hq; exact S), r⟩
theorem g_alen (C : Cx p s m meth c Z own nm code ml ret) {a : Addr} {N : Nat} {f : Nat → Value} {ty : FieldType} {z : Int32} (d : decode code pc = .ok (.arraylength, 1)) (A : Av Z h a ty N f) (hz : Int32.ofNat N = z) (hq : pc + 1 = q) (K : Go p l e R s m args below meth c Ph n0 h k n q Ls (.int z :: st)) : Go p l e R s m args below meth c Ph n0 h k n pc Ls (.ref a :: st) := fun T locs X N' eT => by
  obtain ⟨c', A, r1, r2, r3⟩ := A
  obtain ⟨s₂, v', S, r⟩ := K T locs X N' eT
  refine ⟨s₂, v', X.arraylength C.1 (by rw [eT]; exact A.1) (State.isArrayOf_alike C.2.2.2.2.1.alike A.2.1) (g := mkF m pc Ls _) rfl rfl (hb C.2.1 d) _ ?_, r⟩
  subst hq hz
  rw [r1]
  exact S
theorem g_iastore (C : Cx p s m meth c Z own nm code ml ret) {a : Addr} {N i : Nat} {f : Nat → Value} {j : Int32} {x : Int32} (d : decode code pc = .ok (.iastore, 1)) (A : Av Z h a .int N f) (hi : i < N) (hj : j = Int32.ofNat i) (ha : n0 ≤ a) (hq : pc + 1 = q)
    (K : ∀ h', Wr h h' a i (.int x) → Av Z h' a .int N (fun j => if j = i then (.int x) else f j) → Go p l e R s m args below meth c Ph n0 h' k n q Ls st) : Go p l e R s m args below meth c Ph n0 h k n pc Ls (.int x :: .int j :: .ref a :: st) := fun T locs X N' eT => by
  have A' := A
  obtain ⟨c', A, r1, r2, r3⟩ := A
  obtain ⟨g1, g2⟩ := i32_idx hi r2 r1
  subst hj
  obtain ⟨T', h', X', e', W, stp⟩ := stI X C.1 C.2.2.2.2.1 eT A g1 (g := mkF m pc Ls (.int x :: .int (Int32.ofNat i) :: .ref a :: st)) rfl rfl (hb C.2.1 d)
  have N2 := Fr.snoc X' N' ha
  rw [g2] at W
  obtain ⟨s₂, v, S, r⟩ := K h' W (A'.set W hi) T' _ X' N2 e'
  exact ⟨s₂, v, stp _ (by subst hq; exact S), r⟩
theorem g_lastore (C : Cx p s m meth c Z own nm code ml ret) {a : Addr} {N i : Nat} {f : Nat → Value} {j : Int32} {x : Int64} (d : decode code pc = .ok (.lastore, 1)) (A : Av Z h a .long N f) (hi : i < N) (hj : j = Int32.ofNat i) (ha : n0 ≤ a) (hq : pc + 1 = q)
    (K : ∀ h', Wr h h' a i (.long x) → Av Z h' a .long N (fun j => if j = i then (.long x) else f j) → Go p l e R s m args below meth c Ph n0 h' k n q Ls st) : Go p l e R s m args below meth c Ph n0 h k n pc Ls (.long x :: .int j :: .ref a :: st) := fun T locs X N' eT => by
  have A' := A
  obtain ⟨c', A, r1, r2, r3⟩ := A
  obtain ⟨g1, g2⟩ := i32_idx hi r2 r1
  subst hj
  obtain ⟨T', h', X', e', W, stp⟩ := stJ X C.1 C.2.2.2.2.1 eT A g1 (g := mkF m pc Ls (.long x :: .int (Int32.ofNat i) :: .ref a :: st)) rfl rfl (hb C.2.1 d)
  have N2 := Fr.snoc X' N' ha
  rw [g2] at W
  obtain ⟨s₂, v, S, r⟩ := K h' W (A'.set W hi) T' _ X' N2 e'
  exact ⟨s₂, v, stp _ (by subst hq; exact S), r⟩
theorem g_castore (C : Cx p s m meth c Z own nm code ml ret) {a : Addr} {N i : Nat} {f : Nat → Value} {j : Int32} {x : Int32} (d : decode code pc = .ok (.castore, 1)) (A : Av Z h a .char N f) (hi : i < N) (hj : j = Int32.ofNat i) (ha : n0 ≤ a) (hq : pc + 1 = q)
    (K : ∀ h', Wr h h' a i (.int (nar .char x)) → Av Z h' a .char N (fun j => if j = i then (.int (nar .char x)) else f j) → Go p l e R s m args below meth c Ph n0 h' k n q Ls st) : Go p l e R s m args below meth c Ph n0 h k n pc Ls (.int x :: .int j :: .ref a :: st) := fun T locs X N' eT => by
  have A' := A
  obtain ⟨c', A, r1, r2, r3⟩ := A
  obtain ⟨g1, g2⟩ := i32_idx hi r2 r1
  subst hj
  obtain ⟨T', h', X', e', W, stp⟩ := stC X C.1 C.2.2.2.2.1 eT A g1 (g := mkF m pc Ls (.int x :: .int (Int32.ofNat i) :: .ref a :: st)) rfl rfl (hb C.2.1 d)
  have N2 := Fr.snoc X' N' ha
  rw [g2] at W
  obtain ⟨s₂, v, S, r⟩ := K h' W (A'.set W hi) T' _ X' N2 e'
  exact ⟨s₂, v, stp _ (by subst hq; exact S), r⟩
theorem g_bastore (C : Cx p s m meth c Z own nm code ml ret) {a : Addr} {N i : Nat} {f : Nat → Value} {j : Int32} {x : Int32} (d : decode code pc = .ok (.bastore, 1)) (A : Av Z h a .byte N f) (hi : i < N) (hj : j = Int32.ofNat i) (ha : n0 ≤ a) (hq : pc + 1 = q)
    (K : ∀ h', Wr h h' a i (.int (nar .byte x)) → Av Z h' a .byte N (fun j => if j = i then (.int (nar .byte x)) else f j) → Go p l e R s m args below meth c Ph n0 h' k n q Ls st) : Go p l e R s m args below meth c Ph n0 h k n pc Ls (.int x :: .int j :: .ref a :: st) := fun T locs X N' eT => by
  have A' := A
  obtain ⟨c', A, r1, r2, r3⟩ := A
  obtain ⟨g1, g2⟩ := i32_idx hi r2 r1
  subst hj
  obtain ⟨T', h', X', e', W, stp⟩ := stB X C.1 C.2.2.2.2.1 eT A g1 (g := mkF m pc Ls (.int x :: .int (Int32.ofNat i) :: .ref a :: st)) rfl rfl (hb C.2.1 d)
  have N2 := Fr.snoc X' N' ha
  rw [g2] at W
  obtain ⟨s₂, v, S, r⟩ := K h' W (A'.set W hi) T' _ X' N2 e'
  exact ⟨s₂, v, stp _ (by subst hq; exact S), r⟩
theorem g_aastore (C : Cx p s m meth c Z own nm code ml ret) {a : Addr} {N i : Nat} {f : Nat → Value} {j : Int32} {x : Value} {ty : FieldType} (d : decode code pc = .ok (.aastore, 1)) (A : Av Z h a ty N f) (hi : i < N) (hj : j = Int32.ofNat i) (hty : ty.isReference = true) (F : Sto Z h a x) (ha : n0 ≤ a) (hq : pc + 1 = q)
    (K : ∀ h', Wr h h' a i x → Av Z h' a ty N (fun j => if j = i then x else f j) → Go p l e R s m args below meth c Ph n0 h' k n q Ls st) : Go p l e R s m args below meth c Ph n0 h k n pc Ls (x :: .int j :: .ref a :: st) := fun T locs X N' eT => by
  have A' := A
  obtain ⟨c', A, r1, r2, r3⟩ := A
  obtain ⟨g1, g2⟩ := i32_idx hi r2 r1
  subst hj
  obtain ⟨T', h', X', e', W, stp⟩ := stR X C.1 C.2.2.2.2.1 eT A g1 hty F (g := mkF m pc Ls (x :: .int (Int32.ofNat i) :: .ref a :: st)) rfl rfl (hb C.2.1 d)
  have N2 := Fr.snoc X' N' ha
  rw [g2] at W
  obtain ⟨s₂, v, S, r⟩ := K h' W (A'.set W hi) T' _ X' N2 e'
  exact ⟨s₂, v, stp _ (by subst hq; exact S), r⟩
/-- a contract: with the arguments as', from the heap hs, the call returns v with Q v (the heap then); the written places lie at or above nf; rm: its room -/
def Ctr (l : Launch) (Z : State) (y : MethodName) (bytes : ByteArray) (maxL : Nat) (rt : Option FieldType) (rm : Room) (as' : Array Value) (hs : Heap) (nf : Nat) (Q : Option Value → Heap → Prop) : Prop :=
  MetFree l y (head1 [Cond.code y bytes maxL rt] rm) (fun a U => a = as' ∧ Z.Warmed39 U.vm ∧ U.heap = hs) (fun _ _ _ _ _ => True) (fun _ U o U' => ∃ v L, o = .returned v ∧ (Q v U'.heap ∧ Fr nf L) ∧ FrameEnd U o U' L rm.cells rm.slots)
/-- what a narrow walk must come to -/
def FinN (s : State) (below : List Frame) (rm : Room) (nf : Nat) (Q : Option Value → Heap → Prop) : State → Option Value → Prop :=
  fun s₂ v => s₂.status = .running ∧ Ended s₂ below (.returned v) ∧ ∃ L, (Q v s₂.heap ∧ Fr nf L) ∧ FrameEnd s (.returned v) s₂ L rm.cells rm.slots
theorem Ctr.of {l : Launch} {Z : State} {y : MethodName} {bytes : ByteArray} {maxL : Nat} {rt : Option FieldType} {rm : Room} {as' : Array Value} {hs : Heap} {nf : Nat} {Q : Option Value → Heap → Prop} {n1 : Nat} (Ls : Array Slot) (hp : plainFor y = true) (hE : ∀ m, entryFrame m as' maxL = mkF m 0 Ls [])
    (B : ∀ (p : Program) (e : Env) (s : State) (m : MethodId) (below : List Frame) (meth : Method) (c : Code), Cx p s m meth c Z y.cls y.name bytes maxL rt → Go p l e rm s m as' below meth c (FinN s below rm nf Q) n1 hs 0 0 0 Ls []) : Ctr l Z y bytes maxL rt rm as' hs nf Q := by
  refine MetFree.of_bodySF hp hisR ?_
  intro p e s m args below meth c s₁ Bd hml0 hP hK
  obtain ⟨rfl, hZ, hh⟩ := hP
  have X0 : Stand p l e rm s m _ below meth c s₁ [] 0 0 := Stand.of_body Bd
  have e0 : s₁.heap = hs := by rw [← hh, Bd.state]; rfl
  obtain ⟨s₂, v, S, r1, r2, L, r3, r4⟩ := B p e s m below meth c ⟨Bd.exec, Bd.bytes, hml0, findClass_of_methodNamed Bd.named, hZ, (name_of_methodNamed Bd.named Bd.method).1, Bd.returns, Bd.notSynchronized⟩ s₁ [] X0 (Fr.nil _) e0
  exact ⟨s₂, _, castTop (hE m) S, r1, r2, v, L, rfl, r3, r4⟩
theorem fin_of {T : State} {locs : List Loc} {rm : Room} {nf : Nat} {Q : Option Value → Heap → Prop} {v : Option Value} {st' : List Value} (C : Cx p s m meth c Z own nm code ml ret) (X : Stand p l e R s m args below meth c T locs k n) (N : Fr n0 locs) (eT : T.heap = h) (hv : ret = none → v = none) (hn : nf ≤ n0) (hk : k ≤ rm.cells) (hl : n ≤ rm.slots) (hQ : Q v h)
    (H : ∀ fs, (∀ (f : JFrame) (acts : List Action), f.method = m → f.locked = none → f.entered = [] → (doReturn e (T.setTop f) acts v).1 = T.setFrames fs) → Steps p.tables e below (T.setTop (mkF m pc Ls st')) (T.setFrames fs)) :
    ∃ s₂ v, Steps p.tables e below (T.setTop (mkF m pc Ls st')) s₂ ∧ FinN s below rm nf Q s₂ v := by
  obtain ⟨fs, hr, hrun, hended, hW, hsame⟩ := X.leave (v := v) (fun hh => hv (C.2.2.2.2.2.2.1.symm.trans hh)) C.2.2.2.2.2.2.2
  exact ⟨_, v, H fs hr, hrun, hended, locs, ⟨by rw [show (T.setFrames fs).heap = h from eT]; exact hQ, fun y hy => Nat.le_trans hn (N y hy)⟩, ⟨v, rfl⟩, hW, hsame.mono hk hl⟩
theorem g_return {rm : Room} {nf : Nat} {Q : Option Value → Heap → Prop} (C : Cx p s m meth c Z own nm code ml none) (d : decode code pc = .ok (.return_, 1)) (hn : nf ≤ n0) (hk : k ≤ rm.cells) (hl : n ≤ rm.slots) (hQ : Q none h) : Go p l e R s m args below meth c (FinN s below rm nf Q) n0 h k n pc Ls [] :=
  fun T locs X N eT => fin_of C X N eT (fun _ => rfl) hn hk hl hQ fun fs hr => X.returnOut C.1 C.2.2.2.2.2.2.1 (hb C.2.1 d) hr
theorem g_ireturn {rm : Room} {nf : Nat} {Q : Option Value → Heap → Prop} {x : Int32} (C : Cx p s m meth c Z own nm code ml (some .int)) (d : decode code pc = .ok (.ireturn, 1)) (hn : nf ≤ n0) (hk : k ≤ rm.cells) (hl : n ≤ rm.slots) (hQ : Q (some (.int x)) h) : Go p l e R s m args below meth c (FinN s below rm nf Q) n0 h k n pc Ls (.int x :: st) :=
  fun T locs X N eT => fin_of C X N eT (fun hh => nomatch hh) hn hk hl hQ fun fs hr => retI X C.1 C.2.2.2.2.2.2.1 (hb C.2.1 d) hr
theorem g_nreturn {rm : Room} {nf : Nat} {Q : Option Value → Heap → Prop} {x z : Int32} {t : FieldType} (C : Cx p s m meth c Z own nm code ml (some t)) (d : decode code pc = .ok (.ireturn, 1)) (ht : t = .boolean ∨ t = .byte ∨ t = .char ∨ t = .short) (hz : nar t x = z) (hn : nf ≤ n0) (hk : k ≤ rm.cells) (hl : n ≤ rm.slots) (hQ : Q (some (.int z)) h) : Go p l e R s m args below meth c (FinN s below rm nf Q) n0 h k n pc Ls (.int x :: st) :=
  fun T locs X N eT => fin_of (v := some (.int z)) C X N eT (fun hh => nomatch hh) hn hk hl hQ fun fs hr => retN X C.1 C.2.2.2.2.2.2.1 ht (hb C.2.1 d) (by rw [hz]; exact hr)
theorem g_lreturn {rm : Room} {nf : Nat} {Q : Option Value → Heap → Prop} {x : Int64} (C : Cx p s m meth c Z own nm code ml (some .long)) (d : decode code pc = .ok (.lreturn, 1)) (hn : nf ≤ n0) (hk : k ≤ rm.cells) (hl : n ≤ rm.slots) (hQ : Q (some (.long x)) h) : Go p l e R s m args below meth c (FinN s below rm nf Q) n0 h k n pc Ls (.long x :: st) :=
  fun T locs X N eT => fin_of C X N eT (fun hh => nomatch hh) hn hk hl hQ fun fs hr => retOut X C.1 C.2.2.2.2.2.2.1 rfl (Or.inr (Or.inl ⟨rfl, rfl, x, rfl⟩)) (hb C.2.1 d) hr
theorem g_areturn {rm : Room} {nf : Nat} {Q : Option Value → Heap → Prop} {x : Value} {t : FieldType} (C : Cx p s m meth c Z own nm code ml (some t)) (d : decode code pc = .ok (.areturn, 1)) (ht : t.isReference = true) (hx : x.isRef = true) (hn : nf ≤ n0) (hk : k ≤ rm.cells) (hl : n ≤ rm.slots) (hQ : Q (some x) h) : Go p l e R s m args below meth c (FinN s below rm nf Q) n0 h k n pc Ls (x :: st) :=
  fun T locs X N eT => fin_of C X N eT (fun hh => nomatch hh) hn hk hl hQ fun fs hr => retOut X C.1 C.2.2.2.2.2.2.1 (by rcases ref_cases hx with rfl | ⟨a, rfl⟩ <;> cases t <;> first | rfl | cases ht) (Or.inr (Or.inr (Or.inr (Or.inr ⟨rfl, ht, hx⟩)))) (hb C.2.1 d) hr
/-- a callee that pays, at this walk -/
def BK (l : Launch) (R : Room) (p : Program) (e : Env) (below : List Frame) (s : State) (args : Array Value) (y : MethodName) (len W : Nat) (as' : Array Value) (h : Heap) (ck sk n0 : Nat) (Q : Option Value → Heap → Prop) : Prop :=
  Back l R p e below s args y len W (fun A a => a = as' ∧ A.U.heap = h ∧ A.cells + ck ≤ R.cells ∧ A.slots + sk ≤ R.slots) (fun A _ v B => ∃ L, (Q v B.U.heap ∧ Fr n0 L) ∧ B.locs = A.locs ++ L ∧ B.cells = A.cells + ck ∧ B.slots = A.slots + sk)
theorem Ctr.bk {y : MethodName} {bytes : ByteArray} {maxL len W : Nat} {rt : Option FieldType} {rm : Room} {as' : Array Value} {Q : Option Value → Heap → Prop} (M : Ctr l Z y bytes maxL rt rm as' h n0 Q) (C : Cx p s m meth c Z own nm code ml ret) (w4 : (Cond.code y bytes maxL rt).before a0 Z = true) (w3 : (Cond.initialized y.cls).before a0 Z = true) (hf : rm.frames + 1 ≤ R.frames) (hl : W + (maxL + 11) + rm.locals ≤ R.locals) : BK l R p e below s args y len W as' h rm.cells rm.slots n0 Q :=
  backOf (W := W) (Q := fun v h' L => Q v h' ∧ Fr n0 L) M C.2.2.2.2.1 w4 w3 hf hl
theorem g_callS (C : Cx p s m meth c Z own nm code ml ret) {y : MethodName} {bytes : ByteArray} {maxL ck sk : Nat} {rt : Option FieldType} {Q : Option Value → Heap → Prop} {index W : Nat} {argsL : List Value} (d : decode code pc = .ok (.invokestatic index, 3)) (w1 : (Cond.methodLink own index y).before a0 Z = true) (w2 : (Cond.static y).before a0 Z = true) (w3 : (Cond.initialized y.cls).before a0 Z = true) (w4 : (Cond.code y bytes maxL rt).before a0 Z = true) (hy : y.cls ≠ "java/lang/invoke/MethodHandle" ∧ y.cls ≠ "java/lang/invoke/VarHandle")
    (M : BK l R p e below s args y 3 W argsL.toArray h ck sk n0 Q) (hc : k + ck ≤ R.cells) (hs : n + sk ≤ R.slots) (hsz : Ls.size = ml) (hlen : ∀ sig, parseMethodDescriptor y.desc = some sig → argsL.length = sig.parameters.length) (hst : st = argsL.reverse ++ rest) (hW : (rest.map fun v => v.category).sum = W) (hq : pc + 3 = q)
    (K : ∀ v h', Q v h' → ∃ st', st' = v.toList ++ rest ∧ Go p l e R s m args below meth c Ph n0 h' (k + ck) (n + sk) q Ls st') : Go p l e R s m args below meth c Ph n0 h k n pc Ls st := fun T locs X N eT => by
  have hZ := C.2.2.2.2.1
  obtain ⟨v, vm1, ⟨T', L', k', n'⟩, -, X', ⟨L, ⟨hQ, NL⟩, l1, l2, l3⟩, stp⟩ := Jvm.LawKit.callS X C.1 (y := y) C.2.2.2.1 (mvT hZ w1) (mvT hZ w2) (mvT hZ w3) (mvT hZ w4) hy M (g := mkF m pc Ls st) rfl (hsz.trans C.2.2.1.symm) (argsL := argsL) (rest := rest) hlen hst (by show 2 * 0 + _ ≤ _; rw [hW]; omega) (hb C.2.1 d) (fun _ _ => ⟨rfl, eT, hc, hs⟩)
  dsimp only [Pt.U, Pt.locs, Pt.cells, Pt.slots] at X' l1 l2 l3 stp
  subst l1 l2 l3
  obtain ⟨st', hst', K'⟩ := K v _ hQ
  obtain ⟨s₂, v', S, r⟩ := K' _ _ X' (N.app NL) rfl
  exact ⟨s₂, v', stp _ (by subst hq hst'; exact S), r⟩
theorem g_callI (C : Cx p s m meth c Z own nm code ml ret) {y : MethodName} {bytes : ByteArray} {maxL ck sk : Nat} {Q : Option Value → Heap → Prop} {index W : Nat} {argsL : List Value} {a : Addr} (d : decode code pc = .ok (.invokespecial index, 3)) (hy1 : y.name = "<init>") (w1 : (Cond.methodLink own index y).before a0 Z = true) (w2 : (Cond.instanceMethod y).before a0 Z = true) (w4 : (Cond.code y bytes maxL none).before a0 Z = true) (hy : y.cls ≠ "java/lang/invoke/MethodHandle" ∧ y.cls ≠ "java/lang/invoke/VarHandle")
    (M : BK l R p e below s args y 3 W (.ref a :: argsL).toArray h ck sk n0 Q) (hc : k + ck ≤ R.cells) (hs : n + sk ≤ R.slots) (hsz : Ls.size = ml) (hlen : ∀ sig, parseMethodDescriptor y.desc = some sig → argsL.length = sig.parameters.length) (hst : st = argsL.reverse ++ .ref a :: rest) (hW : (rest.map fun v => v.category).sum = W) (hq : pc + 3 = q)
    (K : ∀ v h', Q v h' → ∃ st', st' = v.toList ++ rest ∧ Go p l e R s m args below meth c Ph n0 h' (k + ck) (n + sk) q Ls st') : Go p l e R s m args below meth c Ph n0 h k n pc Ls st := fun T locs X N eT => by
  have hZ := C.2.2.2.2.1
  obtain ⟨v, vm1, ⟨T', L', k', n'⟩, -, X', ⟨L, ⟨hQ, NL⟩, l1, l2, l3⟩, stp⟩ := X.specialBack C.1 (y := y) hy1 C.2.2.2.1 (mvT hZ w1) (mvT hZ w2) (mvT hZ w4) hy M (g := mkF m pc Ls st) rfl (hsz.trans C.2.2.1.symm) (Steps.refl _) (a := a) (argsL := argsL) (rest := rest) hlen hst (by show 2 * 0 + _ ≤ _; rw [hW]; omega) (hb C.2.1 d) (fun _ _ => ⟨rfl, eT, hc, hs⟩)
  dsimp only [Pt.U, Pt.locs, Pt.cells, Pt.slots] at X' l1 l2 l3 stp
  subst l1 l2 l3
  obtain ⟨st', hst', K'⟩ := K v _ hQ
  obtain ⟨s₂, v', S, r⟩ := K' _ _ X' (N.app NL) rfl
  exact ⟨s₂, v', stp.trans (by subst hq hst'; exact S), r⟩
theorem g_callV (C : Cx p s m meth c Z own nm code ml ret) {y : MethodName} {ck sk : Nat} {Q : Option Value → Heap → Prop} {index W : Nat} {argsL : List Value} {y0 : MethodName} {Cl : String} {a : Addr} (d : decode code pc = .ok (.invokevirtual index, 3)) (w1 : (Cond.methodLink own index y0).before a0 Z = true) (w2 : (Cond.declares y0).before a0 Z = true) (w5 : (Cond.selects Cl y0 y).before a0 Z = true) (w6 : (Cond.instanceMethod y).before a0 Z = true) (hy : y0.cls ≠ "java/lang/invoke/MethodHandle" ∧ y0.cls ≠ "java/lang/invoke/VarHandle") (hnf : NotFace s y0)
    (E : Exa Z h a Cl) (M : BK l R p e below s args y 3 W (.ref a :: argsL).toArray h ck sk n0 Q) (hc : k + ck ≤ R.cells) (hs : n + sk ≤ R.slots) (hsz : Ls.size = ml) (hlen : ∀ sig, parseMethodDescriptor y0.desc = some sig → argsL.length = sig.parameters.length) (hst : st = argsL.reverse ++ .ref a :: rest) (hW : (rest.map fun v => v.category).sum = W) (hq : pc + 3 = q)
    (K : ∀ v h', Q v h' → ∃ st', st' = v.toList ++ rest ∧ Go p l e R s m args below meth c Ph n0 h' (k + ck) (n + sk) q Ls st') : Go p l e R s m args below meth c Ph n0 h k n pc Ls st := fun T locs X N eT => by
  have hZ := C.2.2.2.2.1
  obtain ⟨cq, kq, qa, qb, qc⟩ := isOf hZ eT E
  obtain ⟨v, vm1, ⟨T', L', k', n'⟩, -, X', ⟨L, ⟨hQ, NL⟩, l1, l2, l3⟩, stp⟩ := X.virtualBack C.1 (y := y0) (z := y) C.2.2.2.1 (mvT hZ w1) (mvT hZ w2) hnf (mvT hZ w5) (mvT hZ w6) hy M qa qc (g := mkF m pc Ls st) rfl (hsz.trans C.2.2.1.symm) (Steps.refl _) (argsL := argsL) (rest := rest) hlen hst (by show 2 * 0 + _ ≤ _; rw [hW]; omega) (hb C.2.1 d) (fun _ _ => ⟨rfl, eT, hc, hs⟩)
  dsimp only [Pt.U, Pt.locs, Pt.cells, Pt.slots] at X' l1 l2 l3 stp
  subst l1 l2 l3
  obtain ⟨st', hst', K'⟩ := K v _ hQ
  obtain ⟨s₂, v', S, r⟩ := K' _ _ X' (N.app NL) rfl
  exact ⟨s₂, v', stp.trans (by subst hq hst'; exact S), r⟩
theorem g_callP (C : Cx p s m meth c Z own nm code ml ret) {y : MethodName} {bytes : ByteArray} {maxL ck sk : Nat} {rt : Option FieldType} {Q : Option Value → Heap → Prop} {index W : Nat} {argsL : List Value} {Cl : String} {a : Addr} (d : decode code pc = .ok (.invokevirtual index, 3)) (w1 : (Cond.methodLink own index y).before a0 Z = true) (w2 : (Cond.instanceMethod y).before a0 Z = true) {kk : Nat} (wi : (Cond.instantiable y.cls kk).before a0 Z = true) (w4 : (Cond.code y bytes maxL rt).before a0 Z = true) (hy : y.cls ≠ "java/lang/invoke/MethodHandle" ∧ y.cls ≠ "java/lang/invoke/VarHandle") (hpr : s.PrivateAt y)
    (E : Exa Z h a Cl) (M : BK l R p e below s args y 3 W (.ref a :: argsL).toArray h ck sk n0 Q) (hc : k + ck ≤ R.cells) (hs : n + sk ≤ R.slots) (hsz : Ls.size = ml) (hlen : ∀ sig, parseMethodDescriptor y.desc = some sig → argsL.length = sig.parameters.length) (hst : st = argsL.reverse ++ .ref a :: rest) (hW : (rest.map fun v => v.category).sum = W) (hq : pc + 3 = q)
    (K : ∀ v h', Q v h' → ∃ st', st' = v.toList ++ rest ∧ Go p l e R s m args below meth c Ph n0 h' (k + ck) (n + sk) q Ls st') : Go p l e R s m args below meth c Ph n0 h k n pc Ls st := fun T locs X N eT => by
  have hZ := C.2.2.2.2.1
  obtain ⟨ce, hce, hob⟩ := E.cell
  obtain ⟨ci, ki, hci, hki, -, hni, -⟩ := Cond.instantiable_spec (mv (args := args) hZ wi)
  simp only [Bool.or_eq_false_iff] at hni
  have w5 : (Cond.selects y.cls y y).before args s = true := Jvm.Stand.selects_self_of_private hci hki hni.1 hpr (mvT hZ w2) hy
  obtain ⟨v, vm1, ⟨T', L', k', n'⟩, -, X', ⟨L, ⟨hQ, NL⟩, l1, l2, l3⟩, stp⟩ := X.privateBack C.1 (y := y) C.2.2.2.1 (mvT hZ w1) (mvT hZ w2) w5 hpr (mvT hZ w4) hy M (g := mkF m pc Ls st) rfl (hsz.trans C.2.2.1.symm) (Steps.refl _) (a := a) (cell := ce) (by rw [eT]; exact hce) hob (argsL := argsL) (rest := rest) hlen hst (by show 2 * 0 + _ ≤ _; rw [hW]; omega) (hb C.2.1 d) (fun _ _ => ⟨rfl, eT, hc, hs⟩)
  dsimp only [Pt.U, Pt.locs, Pt.cells, Pt.slots] at X' l1 l2 l3 stp
  subst l1 l2 l3
  obtain ⟨st', hst', K'⟩ := K v _ hQ
  obtain ⟨s₂, v', S, r⟩ := K' _ _ X' (N.app NL) rfl
  exact ⟨s₂, v', stp.trans (by subst hq hst'; exact S), r⟩
theorem g_callF (C : Cx p s m meth c Z own nm code ml ret) {y : MethodName} {ck sk : Nat} {Q : Option Value → Heap → Prop} {index W : Nat} {argsL : List Value} {xi : MethodName} {Cl : String} {a : Addr} {count : Nat} (d : decode code pc = .ok (.invokeinterface index count, 5)) (w1 : (Cond.methodLink own index xi).before a0 Z = true) (w2 : (Cond.declares xi).before a0 Z = true) (w3 : (Cond.interfaceMethod xi.cls xi.cls xi.name xi.desc).before a0 Z = true) (w5 : (Cond.selects Cl xi y).before a0 Z = true) (w6 : (Cond.instanceMethod y).before a0 Z = true) (w7 : (Cond.publicMethod y).before a0 Z = true) (w8 : (Cond.unhidden Cl xi.name xi.desc).before a0 Z = true) (w9 : (Cond.castable Cl xi.cls).before a0 Z = true) (hfa : ((Cond.interfaceMethod xi.cls xi.cls xi.name xi.desc).onTables && (Cond.interfaceMethod xi.cls xi.cls xi.name xi.desc).keepsFace) = true) (hy : xi.cls ≠ "java/lang/invoke/MethodHandle" ∧ xi.cls ≠ "java/lang/invoke/VarHandle")
    (E : Exa Z h a Cl) (M : BK l R p e below s args y 5 W (.ref a :: argsL).toArray h ck sk n0 Q) (hc : k + ck ≤ R.cells) (hs : n + sk ≤ R.slots) (hsz : Ls.size = ml) (hlen : ∀ sig, parseMethodDescriptor xi.desc = some sig → argsL.length = sig.parameters.length) (hst : st = argsL.reverse ++ .ref a :: rest) (hW : (rest.map fun v => v.category).sum = W) (hq : pc + 5 = q)
    (K : ∀ v h', Q v h' → ∃ st', st' = v.toList ++ rest ∧ Go p l e R s m args below meth c Ph n0 h' (k + ck) (n + sk) q Ls st') : Go p l e R s m args below meth c Ph n0 h k n pc Ls st := fun T locs X N eT => by
  have hZ := C.2.2.2.2.1
  obtain ⟨cq, kq, qa, qb, qc⟩ := isOf hZ eT E
  obtain ⟨v, vm1, ⟨T', L', k', n'⟩, -, X', ⟨L, ⟨hQ, NL⟩, l1, l2, l3⟩, stp⟩ := X.interfaceBack C.1 (xi := xi) (y := y) C.2.2.2.1 (mvT hZ w1) (mvT hZ w2) (mvT hZ w3 hfa) (mvT hZ w5) (mvT hZ w6) (mvT hZ w7) (mvT hZ w8) (mvT hZ w9) hy M qa qb qc (g := mkF m pc Ls st) rfl (hsz.trans C.2.2.1.symm) (Steps.refl _) (argsL := argsL) (rest := rest) hlen hst (by show 2 * 0 + _ ≤ _; rw [hW]; omega) (hb C.2.1 d) (fun _ _ => ⟨rfl, eT, hc, hs⟩)
  dsimp only [Pt.U, Pt.locs, Pt.cells, Pt.slots] at X' l1 l2 l3 stp
  subst l1 l2 l3
  obtain ⟨st', hst', K'⟩ := K v _ hQ
  obtain ⟨s₂, v', S, r⟩ := K' _ _ X' (N.app NL) rfl
  exact ⟨s₂, v', stp.trans (by subst hq hst'; exact S), r⟩
theorem nf_of {y : MethodName} {Cl : String} (C : Cx p s m meth c Z own nm code ml ret) (w : (Cond.selects Cl y y).before a0 Z = true) : NotFace s y := notFace_of_selects (args := #[]) (mvT C.2.2.2.2.1 w)
theorem priv_of {y : MethodName} (C : Cx p s m meth c Z own nm code ml ret) (w : (Cond.privateMethod y).before a0 Z = true) : s.PrivateAt y := Cond.privateMethod_at (args := #[]) (mvP C.2.2.2.2.1 w)
theorem Av.arv {a : Addr} {ty : FieldType} {N : Nat} {f : Nat → Value} {vs : List Value} {dv : Value} (A : Av Z h a ty N f) (hf : ∀ j, j < N → f j = vs.getD j dv) (hfit : ∀ j, j < N → fits ty (vs.getD j dv) = true) : ∃ kA, Arv Z h a kA ty (Int32.ofNat N) vs dv := by
  obtain ⟨c', A, r1, r2, r3⟩ := A
  have e : (Int32.ofNat N).toNatClampNeg = N := Int32.toNatClampNeg_ofNat_of_lt r2
  refine ⟨c'.cls, c', A, rfl, by rw [e]; exact r1, ?_, fun j hj => by rw [r3 j (r1 ▸ hj), hf j (r1 ▸ hj)], fun j hj => hfit j (r1 ▸ hj)⟩
  intro q
  have := Int32.lt_iff_toInt_lt.mp q
  rw [Int32.toInt_ofNat_of_lt r2] at this
  simp at this
  omega
theorem app_less {ws : List Cond} {c0 : Cond} {rm : Room} {y : MethodName} {pl : Platform} {sa : State} {ma : MethodId} {aa : Array Value} {ba : List Frame} (hf : sa.frames = .invoking ma aa :: ba) (hh : (head1 (c0 :: ws) rm).appliesLoose y pl sa = true) : (head1 [c0] rm).appliesLoose y pl sa = true := by
  obtain ⟨h1, h2, h3, h4, h5, h6, h7, h8⟩ := (Spec.appliesLoose_iff hf).mp hh
  refine (Spec.appliesLoose_iff hf).mpr ⟨h1, h2, h3, h4, h5, h6, h7, ?_⟩
  show (Cond.and c0 .tt).before aa sa = true
  rw [Cond.before_and, atoms_spec (ws := c0 :: ws) h8 c0 (List.mem_cons_self ..)]; rfl
theorem own_cat {v : Value} (hr : v.isRef = true) : v.category = 1 := by rcases ref_cases hr with rfl | ⟨a, rfl⟩ <;> rfl
theorem own_nar {v : Value} {cn : String} (hr : v.isRef = true) : narrow (.object cn) v = v := by rcases ref_cases hr with rfl | ⟨a, rfl⟩ <;> rfl
theorem own_fit {v : Value} {cn : String} (hr : v.isRef = true) : fits (.object cn) v = true := by rcases ref_cases hr with rfl | ⟨a, rfl⟩ <;> rfl
theorem Ext.keep {h0 h h' : Heap} {ws : List Addr} (E : Ext h0 h) (K : Keep h h' ws) (q : ∀ x ∈ ws, h0.size ≤ x) : Ext h0 h' := ⟨Nat.le_trans E.1 K.1, fun a c hc => K.2.1 a c (E.2 a c hc) fun hm => Nat.not_lt.mpr (q a hm) (Array.getElem?_eq_some_iff.mp hc).1⟩
theorem Ext.wr {h0 h h' : Heap} {a : Addr} {sl : Nat} {v : Value} (E : Ext h0 h) (W : Wr h h' a sl v) (q : h0.size ≤ a) : Ext h0 h' := Ext.keep E (Keep.of_wr W) fun x hx => by cases List.mem_singleton.mp hx; exact q
theorem Ext.tr {h0 h h' : Heap} (E : Ext h0 h) (E' : Ext h h') : Ext h0 h' := ⟨Nat.le_trans E.1 E'.1, fun a c hc => E'.2 a c (E.2 a c hc)⟩
theorem Ext.rfl' (h : Heap) : Ext h h := ⟨Nat.le_refl _, fun _ _ q => q⟩
theorem Ext.kp {h h' : Heap} (E : Ext h h') (ws : List Addr) : Keep h h' ws := (Keep.refl h ws).ext E
theorem Av.fitc {a : Addr} {ty : FieldType} {N : Nat} {f : Nat → Value} (A : Av Z h a ty N f) (hf : ∀ j, j < N → fits ty (f j) = true) : ∃ cl, Arr Z h a cl ty ∧ cl.slots.size = N ∧ N < 2 ^ 31 ∧ (∀ j, j < N → cl.slots[j]? = some (f j)) ∧ FitC Z cl := by
  obtain ⟨cl, A, r1, r2, r3⟩ := A
  refine ⟨cl, A, r1, r2, r3, fun i v hv => ?_⟩
  obtain ⟨hi, -⟩ := Array.getElem?_eq_some_iff.mp hv
  obtain ⟨hs, kk, hk, comp, hkind⟩ := A.2.1
  have e1 := r3 i (r1 ▸ hi)
  rw [hv] at e1
  cases e1
  simp [State.fitsSlot, State.slotType?, hk, hkind, hf i (r1 ▸ hi)]
theorem g_newarrayE (C : Cx p s m meth c Z own nm code ml ret) {aty : ArrayType} {N' : Int32} {cap : Nat} {ad : String} (d : decode code pc = .ok (.newarray aty, 2)) (w : (Cond.arrayClass (newarray.typeOf aty)).before a0 Z = true) (hn : ¬ N' < 0) (hcap : N'.toNatClampNeg ≤ cap) (hbg : cap * 8 ≤ 536870912) (hc : k + 1 ≤ R.cells) (hl : n + cap ≤ R.slots) (had : "[" ++ (newarray.typeOf aty).toString = ad) (hq : pc + 2 = q)
    (K : ∀ (a : Addr) (h' : Heap) (cA : ClassId), a = h.size → Ext h h' → Arr Z h' a (newA cA (newarray.typeOf aty) N') (newarray.typeOf aty) → Exa Z h' a ad → Go p l e R s m args below meth c Ph n0 h' (k + 1) (n + cap) q Ls (.ref a :: st)) : Go p l e R s m args below meth c Ph n0 h k n pc Ls (.int N' :: st) := fun T locs X N eT => by
  obtain ⟨T', h', cA, X', e', E, A, EA, stp⟩ := newPE X C.1 C.2.2.2.2.1 w eT (g := mkF m pc Ls (.int N' :: st)) rfl (hb C.2.1 d) rfl hn hcap hbg hc hl had
  obtain ⟨s₂, v, S, r⟩ := K _ h' cA rfl E A EA T' locs X' N e'
  exact ⟨s₂, v, stp _ (by subst hq; exact S), r⟩
theorem g_clone (C : Cx p s m meth c Z own nm code ml ret) {ad : String} {index W cap N : Nat} {a : Addr} {ty : FieldType} {f : Nat → Value} (d : decode code pc = .ok (.invokevirtual index, 3)) (w1 : (Cond.methodLink own index ⟨ad, "clone", "()Ljava/lang/Object;"⟩).before a0 Z = true) (w2 : (Cond.sameMethod ad "java/lang/Object" "clone" "()Ljava/lang/Object;").before a0 Z = true) (w3 : (Cond.native ⟨"java/lang/Object", "clone", "()Ljava/lang/Object;"⟩).before a0 Z = true)
    (w4 : (Cond.instanceMethod ⟨"java/lang/Object", "clone", "()Ljava/lang/Object;"⟩).before a0 Z = true) (w5 : (Cond.selects ad ⟨ad, "clone", "()Ljava/lang/Object;"⟩ ⟨"java/lang/Object", "clone", "()Ljava/lang/Object;"⟩).before a0 Z = true) (w6 : (Cond.castable ad "java/lang/Cloneable").before a0 Z = true)
    (A : Av Z h a ty N f) (hfit : ∀ j, j < N → fits ty (f j) = true) (E : Exa Z h a ad) (hsz : Ls.size = ml) (hf : 1 ≤ R.frames) (hW : (st.map fun v => v.category).sum = W) (hl : W + 14 ≤ R.locals) (hcap : N ≤ cap) (hc : k + 1 ≤ R.cells) (hsl : n + cap ≤ R.slots) (hq : pc + 3 = q)
    (K : ∀ (b : Addr) (h' : Heap), b = h.size → Ext h h' → Av Z h' b ty N f → Exa Z h' b ad → Go p l e R s m args below meth c Ph n0 h' (k + 1) (n + cap) q Ls (.ref b :: st)) : Go p l e R s m args below meth c Ph n0 h k n pc Ls (.ref a :: st) := fun T locs X N' eT => by
  obtain ⟨cl, A, r1, r2, r3, FC⟩ := A.fitc hfit
  obtain ⟨T', h', X', e', E', A', EA, stp⟩ := cloneA X C.1 C.2.2.2.2.1 C.2.2.2.1 w1 w2 w3 w4 w5 w6 eT A E FC (g := mkF m pc Ls (.ref a :: st)) rfl (hsz.trans C.2.2.1.symm) rfl (hb C.2.1 d) hf (W := W) (cap := cap) (by show 2 * 0 + _ ≤ _; rw [hW]; omega) hl (by rw [r1]; exact hcap) hc hsl
  obtain ⟨s₂, v, S, r⟩ := K _ h' rfl E' ⟨_, A', r1, r2, r3⟩ EA T' locs X' N' e'
  exact ⟨s₂, v, stp _ (by subst hq; exact S), r⟩
theorem Av.rng {a : Addr} {ty : FieldType} {N : Nat} {f : Nat → Value} (A : Av Z h a ty N f) (hf : ∀ j, j < N → fits ty (f j) = true) (dv : Value) : ∃ kA, Arv Z h a kA ty (Int32.ofNat N) ((List.range N).map f) dv :=
  A.arv (fun j hj => by simp [List.getD, hj]) (fun j hj => by simpa [List.getD, hj] using hf j hj)
theorem Av.of_arv {a : Addr} {ty : FieldType} {N : Nat} {kA : ClassId} {z : Int32} {vs : List Value} {dv : Value} (A : Arv Z h a kA ty z vs dv) (hz : z.toNatClampNeg = N) : Av Z h a ty N (fun j => vs.getD j dv) := by
  obtain ⟨c', A, -, r1, r2, H, -⟩ := A
  rw [hz] at r1
  exact ⟨c', A, r1, by rw [← hz]; exact (back32 r2).2, fun j hj => H j (by rw [r1]; exact hj)⟩
theorem nn32 {i : Nat} (hi : i < 2 ^ 31) : ¬ Int32.ofNat i < 0 := by
  rw [Int32.lt_iff_toInt_lt, Int32.toInt_ofNat_of_lt hi]; have e0 : (0 : Int32).toInt = 0 := rfl; omega
theorem g_acopy (C : Cx p s m meth c Z own nm code ml ret) {index W N M sp dp nn : Nat} {a b : Addr} {ty : FieldType} {f f' : Nat → Value} {i1 i2 i3 : Int32} (d : decode code pc = .ok (.invokestatic index, 3)) (w1 : (Cond.methodLink own index Jvm.Stand.acN).before a0 Z = true) (w2 : (Cond.native Jvm.Stand.acN).before a0 Z = true) (w3 : (Cond.static Jvm.Stand.acN).before a0 Z = true) (w4 : (Cond.initialized "java/lang/System").before a0 Z = true)
    (A : Av Z h a ty N f) (B : Av Z h b ty M f') (hrk : refKind ty = false) (hfa : ∀ j, j < N → fits ty (f j) = true) (hfb : ∀ j, j < M → fits ty (f' j) = true) (e1 : i1 = Int32.ofNat sp) (e2 : i2 = Int32.ofNat dp) (e3 : i3 = Int32.ofNat nn) (h1 : sp + nn ≤ N) (h2 : dp + nn ≤ M) (ge : n0 ≤ b) (hsz : Ls.size = ml) (hf : 1 ≤ R.frames) (hW : (st.map fun v => v.category).sum = W) (hl : W + (nativeFrameWords "java/lang/System" "arraycopy" 5 + 11) ≤ R.locals) (hq : pc + 3 = q)
    (K : ∀ (h' : Heap), Keep h h' [b] → Av Z h' b ty M (fun j => if dp ≤ j ∧ j < dp + nn then f (sp + (j - dp)) else f' j) → Go p l e R s m args below meth c Ph n0 h' k n q Ls st) : Go p l e R s m args below meth c Ph n0 h k n pc Ls (.int i3 :: .int i2 :: .ref b :: .int i1 :: .ref a :: st) := fun T locs X N' eT => by
  have hN : N < 2 ^ 31 := by obtain ⟨_, _, _, r, _⟩ := A; exact r
  have hM : M < 2 ^ 31 := by obtain ⟨_, _, _, r, _⟩ := B; exact r
  obtain ⟨kA, A1⟩ := A.rng hfa .null
  obtain ⟨kB, B1⟩ := B.rng hfb .null
  have t1 : (Int32.ofNat sp).toNatClampNeg = sp := Int32.toNatClampNeg_ofNat_of_lt (by omega)
  have t2 : (Int32.ofNat dp).toNatClampNeg = dp := Int32.toNatClampNeg_ofNat_of_lt (by omega)
  have t3 : (Int32.ofNat nn).toNatClampNeg = nn := Int32.toNatClampNeg_ofNat_of_lt (by omega)
  have t4 : (Int32.ofNat N).toNatClampNeg = N := Int32.toNatClampNeg_ofNat_of_lt hN
  have t5 : (Int32.ofNat M).toNatClampNeg = M := Int32.toNatClampNeg_ofNat_of_lt hM
  subst e1 e2 e3
  obtain ⟨T', h', L, X', e', N2, Kp, Bv, stp⟩ := cpA X C.1 C.2.2.2.2.1 C.2.2.2.1 w1 w2 w3 w4 eT A1 B1 (Or.inl ⟨rfl, hrk⟩) (nn32 (by omega)) (nn32 (by omega)) (nn32 (by omega)) (by rw [t1, t3, t4]; exact h1) (by rw [t2, t3, t5]; exact h2) rfl (by rw [t2, t3]; simpa using h2) N' ge (g := mkF m pc Ls (.int (Int32.ofNat nn) :: .int (Int32.ofNat dp) :: .ref b :: .int (Int32.ofNat sp) :: .ref a :: st)) rfl (hsz.trans C.2.2.1.symm) rfl (hb C.2.1 d) hf (W := W) (by show 2 * 0 + _ ≤ _; rw [hW]; omega) hl
  have B2 := (Av.of_arv Bv t5).congr (g := fun j => if dp ≤ j ∧ j < dp + nn then f (sp + (j - dp)) else f' j) (fun j hj => by
    rw [t1, t2, t3]
    simp only [List.getD_eq_getElem?_getD]
    by_cases c1 : j < dp
    · rw [if_neg (by omega), List.append_assoc, List.getElem?_append_left (by simp; omega), List.getElem?_take_of_lt c1]
      simp [hj]
    · by_cases c2 : j < dp + nn
      · rw [if_pos ⟨by omega, c2⟩, List.getElem?_append_left (by simp; omega), List.getElem?_append_right (by simp; omega)]
        simp [show min dp M = dp by omega, show j - dp < nn by omega, show sp + (j - dp) < N by omega]
      · rw [if_neg (by omega), List.getElem?_append_right (by simp; omega)]
        simp [show min dp M = dp by omega, show dp + nn + (j - (dp + nn)) = j by omega, hj])
  obtain ⟨s₂, v, S, r⟩ := K h' Kp B2 T' L X' N2 e'
  exact ⟨s₂, v, stp _ (by subst hq; exact S), r⟩
end GoRules
/-! ## The wide walk: literals may be loaded (the tables' interned strings grow); the Stand is over s0 with the tables of the moment -/
section GoWide
variable {p : Program} {l : Launch} {e : Env} {R : Room} {s0 : State} {vm0 : Vm} {m : MethodId} {args : Array Value} {below : List Frame} {meth : Method} {c : Code} {Ph : State → Option Value → Prop} {n0 : Nat} {h : Heap} {k n : Nat} {pc q : Nat} {Ls : Array Slot} {st rest : List Value} {Z : State} {a0 : Array Value} {own nm : String} {code : ByteArray} {ml : Nat} {ret : Option FieldType}
def Sn (s0 : State) (vm0 : Vm) (h : Heap) : Prop := ∃ k0, s0.Since vm0 k0 ∧ k0 ≤ h.size
theorem Sn.mono {h' : Heap} (S : Sn s0 vm0 h) (q : h.size ≤ h'.size) : Sn s0 vm0 h' := by obtain ⟨k0, h1, h2⟩ := S; exact ⟨k0, h1, Nat.le_trans h2 q⟩
theorem IB.warm {vm1 : Vm} {Ts : List String} (I : IB Z vm0 Ts) (hW : (s0.setVm vm0).WarmedH vm1) : IB Z vm1 Ts := by
  obtain ⟨more, e, hm⟩ := I
  exact ⟨more, (hW.interned_eq).trans e, hm⟩
def CtrW (l : Launch) (Z : State) (y : MethodName) (bytes : ByteArray) (maxL : Nat) (rt : Option FieldType) (rm : Room) (as' : Array Value) (hs : Heap) (nf : Nat) (P : Vm → Prop) (Q : Option Value → Vm → Heap → Prop) : Prop :=
  MetFree l y (head1 [Cond.code y bytes maxL rt] rm) (fun a U => a = as' ∧ Z.Warmed39 U.vm ∧ U.heap = hs ∧ P U.vm) (fun _ _ _ _ _ => True) (fun _ U o U' => ∃ v L, o = .returned v ∧ (Q v U'.vm U'.heap ∧ Fr nf L) ∧ ReturnedEndW U o U' L rm.cells rm.slots)
def FinW (s0 : State) (below : List Frame) (rm : Room) (nf : Nat) (Q : Option Value → Vm → Heap → Prop) : State → Option Value → Prop :=
  fun s₂ v => s₂.status = .running ∧ Ended s₂ below (.returned v) ∧ ∃ L, (Q v s₂.vm s₂.heap ∧ Fr nf L) ∧ ReturnedEndW s0 (.returned v) s₂ L rm.cells rm.slots
theorem CtrW.of {l : Launch} {Z : State} {y : MethodName} {bytes : ByteArray} {maxL : Nat} {rt : Option FieldType} {rm : Room} {as' : Array Value} {hs : Heap} {nf : Nat} {P : Vm → Prop} {Q : Option Value → Vm → Heap → Prop} {n1 : Nat} (Ls : Array Slot) (hp : plainFor y = true) (hE : ∀ m, entryFrame m as' maxL = mkF m 0 Ls [])
    (B : ∀ (p : Program) (e : Env) (s0 : State) (vm0 : Vm) (m : MethodId) (below : List Frame) (meth : Method) (c : Code), Cx p (s0.setVm vm0) m meth c Z y.cls y.name bytes maxL rt → s0.heap = hs → P vm0 → Sn s0 vm0 hs → Go p l e rm (s0.setVm vm0) m as' below meth c (FinW s0 below rm nf Q) n1 hs 0 0 0 Ls []) : CtrW l Z y bytes maxL rt rm as' hs nf P Q := by
  refine MetFree.of_bodySF hp hisR ?_
  intro p e s m args below meth c s₁ Bd hml0 hP hK
  obtain ⟨rfl, hZ, hh, hPv⟩ := hP
  have X0 : Stand p l e rm s m _ below meth c s₁ [] 0 0 := Stand.of_body Bd
  have e0 : s₁.heap = hs := by rw [← hh, Bd.state]; rfl
  have S0 : Sn s s.vm hs := ⟨s.heap.size, (State.WarmedH.refl s).since _, by rw [hh]; exact Nat.le_refl _⟩
  obtain ⟨s₂, v, S, r1, r2, L, r3, r4⟩ := B p e s s.vm m below meth c ⟨Bd.exec, Bd.bytes, hml0, findClass_of_methodNamed Bd.named, hZ, (name_of_methodNamed Bd.named Bd.method).1, Bd.returns, Bd.notSynchronized⟩ hh hPv S0 s₁ [] X0 (Fr.nil _) e0
  exact ⟨s₂, _, castTop (hE m) S, r1, r2, v, L, rfl, r3, r4⟩
theorem finW_of {T : State} {locs : List Loc} {rm : Room} {nf : Nat} {Q : Option Value → Vm → Heap → Prop} {v : Option Value} {st' : List Value} (C : Cx p (s0.setVm vm0) m meth c Z own nm code ml ret) (Sw : Sn s0 vm0 h) (X : Stand p l e R (s0.setVm vm0) m args below meth c T locs k n) (N : Fr n0 locs) (eT : T.heap = h) (hv : ret = none → v = none) (hn : nf ≤ n0) (hk : k ≤ rm.cells) (hl : n ≤ rm.slots) (hQ : ∀ vm1, (s0.setVm vm0).WarmedH vm1 → Q v vm1 h)
    (H : ∀ fs, (∀ (f : JFrame) (acts : List Action), f.method = m → f.locked = none → f.entered = [] → (doReturn e (T.setTop f) acts v).1 = T.setFrames fs) → Steps p.tables e below (T.setTop (mkF m pc Ls st')) (T.setFrames fs)) :
    ∃ s₂ v, Steps p.tables e below (T.setTop (mkF m pc Ls st')) s₂ ∧ FinW s0 below rm nf Q s₂ v := by
  obtain ⟨k0, hS, hk0⟩ := Sw
  obtain ⟨fs, hr, hrun, hended, h1, h2, h3, hsame⟩ := X.leaveW (v := v) hS (by rw [eT]; exact hk0) (fun hh => hv (C.2.2.2.2.2.2.1.symm.trans hh)) C.2.2.2.2.2.2.2
  exact ⟨_, v, H fs hr, hrun, hended, locs, ⟨by rw [show (T.setFrames fs).heap = h from eT]; exact hQ _ X.warmed, fun y hy => Nat.le_trans hn (N y hy)⟩, h1, h2, h3, hsame.mono hk hl⟩
theorem g_returnW {rm : Room} {nf : Nat} {Q : Option Value → Vm → Heap → Prop} (C : Cx p (s0.setVm vm0) m meth c Z own nm code ml none) (Sw : Sn s0 vm0 h) (d : decode code pc = .ok (.return_, 1)) (hn : nf ≤ n0) (hk : k ≤ rm.cells) (hl : n ≤ rm.slots) (hQ : ∀ vm1, (s0.setVm vm0).WarmedH vm1 → Q none vm1 h) : Go p l e R (s0.setVm vm0) m args below meth c (FinW s0 below rm nf Q) n0 h k n pc Ls [] :=
  fun T locs X N eT => finW_of C Sw X N eT (fun _ => rfl) hn hk hl hQ fun fs hr => X.returnOut C.1 C.2.2.2.2.2.2.1 (hb C.2.1 d) hr
theorem g_ireturnW {rm : Room} {nf : Nat} {Q : Option Value → Vm → Heap → Prop} {x : Int32} (C : Cx p (s0.setVm vm0) m meth c Z own nm code ml (some .int)) (Sw : Sn s0 vm0 h) (d : decode code pc = .ok (.ireturn, 1)) (hn : nf ≤ n0) (hk : k ≤ rm.cells) (hl : n ≤ rm.slots) (hQ : ∀ vm1, (s0.setVm vm0).WarmedH vm1 → Q (some (.int x)) vm1 h) : Go p l e R (s0.setVm vm0) m args below meth c (FinW s0 below rm nf Q) n0 h k n pc Ls (.int x :: st) :=
  fun T locs X N eT => finW_of C Sw X N eT (fun hh => nomatch hh) hn hk hl hQ fun fs hr => retI X C.1 C.2.2.2.2.2.2.1 (hb C.2.1 d) hr
theorem g_nreturnW {rm : Room} {nf : Nat} {Q : Option Value → Vm → Heap → Prop} {x z : Int32} {t : FieldType} (C : Cx p (s0.setVm vm0) m meth c Z own nm code ml (some t)) (Sw : Sn s0 vm0 h) (d : decode code pc = .ok (.ireturn, 1)) (ht : t = .boolean ∨ t = .byte ∨ t = .char ∨ t = .short) (hz : nar t x = z) (hn : nf ≤ n0) (hk : k ≤ rm.cells) (hl : n ≤ rm.slots) (hQ : ∀ vm1, (s0.setVm vm0).WarmedH vm1 → Q (some (.int z)) vm1 h) : Go p l e R (s0.setVm vm0) m args below meth c (FinW s0 below rm nf Q) n0 h k n pc Ls (.int x :: st) :=
  fun T locs X N eT => finW_of (v := some (.int z)) C Sw X N eT (fun hh => nomatch hh) hn hk hl hQ fun fs hr => retN X C.1 C.2.2.2.2.2.2.1 ht (hb C.2.1 d) (by rw [hz]; exact hr)
theorem g_areturnW {rm : Room} {nf : Nat} {Q : Option Value → Vm → Heap → Prop} {x : Value} {t : FieldType} (C : Cx p (s0.setVm vm0) m meth c Z own nm code ml (some t)) (Sw : Sn s0 vm0 h) (d : decode code pc = .ok (.areturn, 1)) (ht : t.isReference = true) (hx : x.isRef = true) (hn : nf ≤ n0) (hk : k ≤ rm.cells) (hl : n ≤ rm.slots) (hQ : ∀ vm1, (s0.setVm vm0).WarmedH vm1 → Q (some x) vm1 h) : Go p l e R (s0.setVm vm0) m args below meth c (FinW s0 below rm nf Q) n0 h k n pc Ls (x :: st) :=
  fun T locs X N eT => finW_of C Sw X N eT (fun hh => nomatch hh) hn hk hl hQ fun fs hr => retOut X C.1 C.2.2.2.2.2.2.1 (by rcases ref_cases hx with rfl | ⟨a, rfl⟩ <;> cases t <;> first | rfl | cases ht) (Or.inr (Or.inr (Or.inr (Or.inr ⟨rfl, ht, hx⟩)))) (hb C.2.1 d) hr
theorem g_ldcS (C : Cx p (s0.setVm vm0) m meth c Z own nm code ml ret) {index : Nat} {text : String} {Ts : List String} {vs : List Value} {z : Int32} {nn : Nat} (Sw : Sn s0 vm0 h) (d : decode code pc = .ok (.ldc index, 2)) (w : (Cond.stringLink own index text).before a0 Z = true) (wS : ∀ a ∈ Bundle.stringAtoms, a.before a0 Z = true) (hkeep : ∀ (b : Addr) (cl : Cell), Z.heap[b]? = some cl → s0.heap[b]? = some cl) (hn0 : s0.heap.size ≤ n0) (I : IB Z vm0 Ts) (hnot : text ∉ Ts) (hh : Jvm.Lit.constHeld Z own index) (hcw : Jvm.Lit.compactW.before a0 Z = true)
    (ht : (∀ c ∈ text.toList, c.toNat < 256) ∧ text.toList.map (fun c => Value.int (Jvm.Lit.byteI c.toNat.toUInt16)) = vs) (hz : ¬ z < 0) (hzl : z.toNatClampNeg = vs.length) (hn : 4 * text.toList.length ≤ nn) (hbig : nn ≤ 536870912) (hc : k + 2 ≤ R.cells) (hl : n + (nn + 4) ≤ R.slots) (hq : pc + 2 = q)
    (K : ∀ (a : Addr) (vm1 : Vm) (h' : Heap) (b : Addr) (kb : ClassId), Ext h h' → Cx p (s0.setVm vm1) m meth c Z own nm code ml ret → Sn s0 vm1 h' → IB Z vm1 (text :: Ts) → Lit (s0.setVm vm1) own index a → Exa Z h' a "java/lang/String" → Fld Z h' a "java/lang/String" "coder" "B" (.int 0) → Fld Z h' a "java/lang/String" "value" "[B" (.ref b) → Arv Z h' b kb .byte z vs (.int 0) → Go p l e R (s0.setVm vm1) m args below meth c Ph n0 h' (k + 2) (n + (nn + 4)) q Ls (.ref a :: st)) : Go p l e R (s0.setVm vm0) m args below meth c Ph n0 h k n pc Ls st := fun T locs X N eT => by
  obtain ⟨k0, hS, hk0⟩ := Sw
  obtain ⟨a, T', h', k1, b, kb, X', e', E, hS', hk1, hZ', hown', E1, F1, F2, A1, -, -, I', L', stp⟩ := ldcSVL X C.1 C.2.2.2.2.1 C.2.2.2.1 w wS eT hS hk0 (fun y hy => Nat.le_trans hn0 (N y hy)) hkeep I hnot hh hcw ht hz hzl (g := mkF m pc Ls st) rfl (hb C.2.1 d) hn hbig hc hl
  obtain ⟨s₂, v, S, r⟩ := K a T'.vm h' b kb E ⟨C.1, C.2.1, C.2.2.1, hown', hZ', C.2.2.2.2.2⟩ ⟨k1, hS', hk1⟩ I' L' E1 F1 F2 A1 T' locs X' N e'
  exact ⟨s₂, v, stp _ (by subst hq; exact S), r⟩
theorem g_ldcA (C : Cx p (s0.setVm vm0) m meth c Z own nm code ml ret) {index : Nat} {text : String} {a : Addr} (d : decode code pc = .ok (.ldc index, 2)) (w : (Cond.stringLink own index text).before a0 Z = true) (Lt : Lit (s0.setVm vm0) own index a) (hq : pc + 2 = q) (K : Go p l e R (s0.setVm vm0) m args below meth c Ph n0 h k n q Ls (.ref a :: st)) : Go p l e R (s0.setVm vm0) m args below meth c Ph n0 h k n pc Ls st := fun T locs X N eT => by
  obtain ⟨s₂, v, S, r⟩ := K T locs X N eT
  exact ⟨s₂, v, ldcAgain X C.1 C.2.2.2.2.1 C.2.2.2.1 w Lt (g := mkF m pc Ls st) rfl (hb C.2.1 d) _ (by subst hq; exact S), r⟩
theorem backOfW {s : State} {y : MethodName} {bytes : ByteArray} {maxL : Nat} {rt : Option FieldType} {rm : Room} {len W : Nat} {as' : Array Value} {P : Vm → Prop} {Q : Option Value → Vm → Heap → Prop} {nf : Nat}
    (hM : CtrW l Z y bytes maxL rt rm as' h nf P Q) (hZ : Z.Warmed39 s.vm) (wc : (Cond.code y bytes maxL rt).before a0 Z = true) (wz : (Cond.initialized y.cls).before a0 Z = true) (hf : rm.frames + 1 ≤ R.frames) (hl : W + (maxL + 11) + rm.locals ≤ R.locals) :
    BackS l R p e below s args y len W (fun A a => a = as' ∧ A.U.heap = h ∧ P A.U.vm ∧ A.cells + rm.cells ≤ R.cells ∧ A.slots + rm.slots ≤ R.slots)
      (fun A _ v B => ∃ L, (Q v B.U.vm B.U.heap ∧ Fr nf L) ∧ B.locs = A.locs ++ L ∧ B.cells = A.cells + rm.cells ∧ B.slots = A.slots + rm.slots) :=
  BackS.of_freeW (bytes := bytes) (maxL := maxL) (ret := rt) (E := fun _ _ o t L k n => k = rm.cells ∧ n = rm.slots ∧ ∃ v, o = .returned v ∧ (Q v t.vm t.heap ∧ Fr nf L)) hM hf hl
    (fun m meth c A a Y hp => have hU : Z.Warmed39 A.U.vm := wtrans hZ Y.warmed
      ⟨by show (Cond.and _ .tt).before a A.U = true; rw [Cond.before_and, mv hU wc]; rfl, mv hU wc, mv hU wz, hp.2.2.2.1, hp.2.2.2.2⟩)
    (fun m meth c A a g mk Y hp => ⟨hp.1, wtrans hZ Y.warmed, hp.2.1, hp.2.2.1⟩) (fun _ _ _ _ _ _ _ _ _ => trivial)
    (fun _ _ _ _ ⟨v, L, h1, h2, h3⟩ => ⟨L, _, _, h3, rfl, rfl, v, h1, h2⟩)
    (fun m meth c A a g mk v t L k n Y hp _ _ ⟨e1, e2, v', e3, e4⟩ => by cases e3; subst e1 e2; exact ⟨L, e4, rfl, rfl, rfl⟩)
theorem g_callSW (C : Cx p (s0.setVm vm0) m meth c Z own nm code ml ret) {y : MethodName} {bytes : ByteArray} {maxL : Nat} {rt : Option FieldType} {rm : Room} {P : Vm → Prop} {Q : Option Value → Vm → Heap → Prop} {index W : Nat} {argsL : List Value} (Sw : Sn s0 vm0 h) (d : decode code pc = .ok (.invokestatic index, 3)) (w1 : (Cond.methodLink own index y).before a0 Z = true) (w2 : (Cond.static y).before a0 Z = true) (w3 : (Cond.initialized y.cls).before a0 Z = true) (w4 : (Cond.code y bytes maxL rt).before a0 Z = true) (hy : y.cls ≠ "java/lang/invoke/MethodHandle" ∧ y.cls ≠ "java/lang/invoke/VarHandle")
    (M : CtrW l Z y bytes maxL rt rm argsL.toArray h n0 P Q) (hf : rm.frames + 1 ≤ R.frames) (hl : W + (maxL + 11) + rm.locals ≤ R.locals) (hc : k + rm.cells ≤ R.cells) (hs : n + rm.slots ≤ R.slots) (hsz : Ls.size = ml) (hlen : ∀ sig, parseMethodDescriptor y.desc = some sig → argsL.length = sig.parameters.length) (hst : st = argsL.reverse ++ rest) (hW : (rest.map fun v => v.category).sum = W) (hq : pc + 3 = q)
    (hP : ∀ vm1, (s0.setVm vm0).WarmedH vm1 → P vm1) (K : ∀ v vm1 h', Q v vm1 h' → Cx p (s0.setVm vm1) m meth c Z own nm code ml ret → Sn s0 vm1 h' → (s0.setVm vm0).Warmed39 vm1 → ∃ st', st' = v.toList ++ rest ∧ Go p l e R (s0.setVm vm1) m args below meth c Ph n0 h' (k + rm.cells) (n + rm.slots) q Ls st') : Go p l e R (s0.setVm vm0) m args below meth c Ph n0 h k n pc Ls st := fun T locs X N eT => by
  have hZ := C.2.2.2.2.1
  obtain ⟨v, vm1, ⟨T', L', k', n'⟩, -, X', hS1, hle, ⟨L, ⟨hQ, NL⟩, l1, l2, l3⟩, stp⟩ := callSS X C.1 (y := y) C.2.2.2.1 (mvT hZ w1) (mvT hZ w2) (mvT hZ w3) (mvT hZ w4) hy (backOfW (W := W) M hZ w4 w3 hf hl) (g := mkF m pc Ls st) rfl (hsz.trans C.2.2.1.symm) (argsL := argsL) (rest := rest) hlen hst (by show 2 * 0 + _ ≤ _; rw [hW]; omega) (hb C.2.1 d) (fun vm1 hW1 => ⟨rfl, eT, hP vm1 hW1, hc, hs⟩)
  dsimp only [Pt.U, Pt.locs, Pt.cells, Pt.slots] at X' hS1 hle l1 l2 l3 stp
  subst l1 l2 l3
  obtain ⟨k0, hS, hk0⟩ := Sw
  have hZ1 : Z.Warmed39 T'.vm := State.Warmed39.trans (t := s0.setVm vm0) hZ hS1.1
  obtain ⟨st', hst', K'⟩ := K v _ _ hQ ⟨C.1, C.2.1, C.2.2.1, by rw [show (s0.setVm T'.vm).vm = T'.vm from rfl, hS1.1.alike.findClass]; exact C.2.2.2.1, hZ1, C.2.2.2.2.2⟩ ⟨_, foldS (T := T) hS (by rw [eT]; exact hk0) hS1 hle, Nat.le_refl _⟩ hS1.1
  obtain ⟨s₂, v', S, r⟩ := K' _ _ X' (N.app NL) rfl
  exact ⟨s₂, v', stp.trans (by subst hq hst'; exact S), r⟩
theorem g_callIW (C : Cx p (s0.setVm vm0) m meth c Z own nm code ml ret) {y : MethodName} {bytes : ByteArray} {maxL : Nat} {rm : Room} {P : Vm → Prop} {Q : Option Value → Vm → Heap → Prop} {index W : Nat} {argsL : List Value} {a : Addr} (Sw : Sn s0 vm0 h) (d : decode code pc = .ok (.invokespecial index, 3)) (hy1 : y.name = "<init>") (w1 : (Cond.methodLink own index y).before a0 Z = true) (w2 : (Cond.instanceMethod y).before a0 Z = true) (w3 : (Cond.initialized y.cls).before a0 Z = true) (w4 : (Cond.code y bytes maxL none).before a0 Z = true) (hy : y.cls ≠ "java/lang/invoke/MethodHandle" ∧ y.cls ≠ "java/lang/invoke/VarHandle")
    (M : CtrW l Z y bytes maxL none rm (.ref a :: argsL).toArray h n0 P Q) (hf : rm.frames + 1 ≤ R.frames) (hl : W + (maxL + 11) + rm.locals ≤ R.locals) (hc : k + rm.cells ≤ R.cells) (hs : n + rm.slots ≤ R.slots) (hsz : Ls.size = ml) (hlen : ∀ sig, parseMethodDescriptor y.desc = some sig → argsL.length = sig.parameters.length) (hst : st = argsL.reverse ++ .ref a :: rest) (hW : (rest.map fun v => v.category).sum = W) (hq : pc + 3 = q)
    (hP : ∀ vm1, (s0.setVm vm0).WarmedH vm1 → P vm1) (K : ∀ v vm1 h', Q v vm1 h' → Cx p (s0.setVm vm1) m meth c Z own nm code ml ret → Sn s0 vm1 h' → (s0.setVm vm0).Warmed39 vm1 → ∃ st', st' = v.toList ++ rest ∧ Go p l e R (s0.setVm vm1) m args below meth c Ph n0 h' (k + rm.cells) (n + rm.slots) q Ls st') : Go p l e R (s0.setVm vm0) m args below meth c Ph n0 h k n pc Ls st := fun T locs X N eT => by
  have hZ := C.2.2.2.2.1
  obtain ⟨v, vm1, ⟨T', L', k', n'⟩, -, X', hS1, hle, ⟨L, ⟨hQ, NL⟩, l1, l2, l3⟩, stp⟩ := X.specialBackS C.1 (y := y) hy1 C.2.2.2.1 (mvT hZ w1) (mvT hZ w2) (mvT hZ w4) hy (backOfW (W := W) M hZ w4 w3 hf hl) (g := mkF m pc Ls st) rfl (hsz.trans C.2.2.1.symm) (Steps.refl _) (a := a) (argsL := argsL) (rest := rest) hlen hst (by show 2 * 0 + _ ≤ _; rw [hW]; omega) (hb C.2.1 d) (fun vm1 hW1 => ⟨rfl, eT, hP vm1 hW1, hc, hs⟩)
  dsimp only [Pt.U, Pt.locs, Pt.cells, Pt.slots] at X' hS1 hle l1 l2 l3 stp
  subst l1 l2 l3
  obtain ⟨k0, hS, hk0⟩ := Sw
  have hZ1 : Z.Warmed39 T'.vm := State.Warmed39.trans (t := s0.setVm vm0) hZ hS1.1
  obtain ⟨st', hst', K'⟩ := K v _ _ hQ ⟨C.1, C.2.1, C.2.2.1, by rw [show (s0.setVm T'.vm).vm = T'.vm from rfl, hS1.1.alike.findClass]; exact C.2.2.2.1, hZ1, C.2.2.2.2.2⟩ ⟨_, foldS (T := T) hS (by rw [eT]; exact hk0) hS1 hle, Nat.le_refl _⟩ hS1.1
  obtain ⟨s₂, v', S, r⟩ := K' _ _ X' (N.app NL) rfl
  exact ⟨s₂, v', stp.trans (by subst hq hst'; exact S), r⟩
theorem g_callVW (C : Cx p (s0.setVm vm0) m meth c Z own nm code ml ret) {y : MethodName} {bytes : ByteArray} {maxL : Nat} {rt : Option FieldType} {rm : Room} {P : Vm → Prop} {Q : Option Value → Vm → Heap → Prop} {index W : Nat} {argsL : List Value} {y0 : MethodName} {Cl : String} {a : Addr} (Sw : Sn s0 vm0 h) (d : decode code pc = .ok (.invokevirtual index, 3)) (w1 : (Cond.methodLink own index y0).before a0 Z = true) (w2 : (Cond.declares y0).before a0 Z = true) (w5 : (Cond.selects Cl y0 y).before a0 Z = true) (w6 : (Cond.instanceMethod y).before a0 Z = true) (w3 : (Cond.initialized y.cls).before a0 Z = true) (w4 : (Cond.code y bytes maxL rt).before a0 Z = true) (hy : y0.cls ≠ "java/lang/invoke/MethodHandle" ∧ y0.cls ≠ "java/lang/invoke/VarHandle") (hnf : NotFace (s0.setVm vm0) y0)
    (E : Exa Z h a Cl) (M : CtrW l Z y bytes maxL rt rm (.ref a :: argsL).toArray h n0 P Q) (hf : rm.frames + 1 ≤ R.frames) (hl : W + (maxL + 11) + rm.locals ≤ R.locals) (hc : k + rm.cells ≤ R.cells) (hs : n + rm.slots ≤ R.slots) (hsz : Ls.size = ml) (hlen : ∀ sig, parseMethodDescriptor y0.desc = some sig → argsL.length = sig.parameters.length) (hst : st = argsL.reverse ++ .ref a :: rest) (hW : (rest.map fun v => v.category).sum = W) (hq : pc + 3 = q)
    (hP : ∀ vm1, (s0.setVm vm0).WarmedH vm1 → P vm1) (K : ∀ v vm1 h', Q v vm1 h' → Cx p (s0.setVm vm1) m meth c Z own nm code ml ret → Sn s0 vm1 h' → (s0.setVm vm0).Warmed39 vm1 → ∃ st', st' = v.toList ++ rest ∧ Go p l e R (s0.setVm vm1) m args below meth c Ph n0 h' (k + rm.cells) (n + rm.slots) q Ls st') : Go p l e R (s0.setVm vm0) m args below meth c Ph n0 h k n pc Ls st := fun T locs X N eT => by
  have hZ := C.2.2.2.2.1
  obtain ⟨cq, kq, qa, qb, qc⟩ := isOf hZ eT E
  obtain ⟨v, vm1, ⟨T', L', k', n'⟩, -, X', hS1, hle, ⟨L, ⟨hQ, NL⟩, l1, l2, l3⟩, stp⟩ := X.virtualBackS C.1 (y := y0) (z := y) C.2.2.2.1 (mvT hZ w1) (mvT hZ w2) hnf (mvT hZ w5) (mvT hZ w6) hy (backOfW (W := W) M hZ w4 w3 hf hl) qa qc (g := mkF m pc Ls st) rfl (hsz.trans C.2.2.1.symm) (Steps.refl _) (argsL := argsL) (rest := rest) hlen hst (by show 2 * 0 + _ ≤ _; rw [hW]; omega) (hb C.2.1 d) (fun vm1 hW1 => ⟨rfl, eT, hP vm1 hW1, hc, hs⟩)
  dsimp only [Pt.U, Pt.locs, Pt.cells, Pt.slots] at X' hS1 hle l1 l2 l3 stp
  subst l1 l2 l3
  obtain ⟨k0, hS, hk0⟩ := Sw
  have hZ1 : Z.Warmed39 T'.vm := State.Warmed39.trans (t := s0.setVm vm0) hZ hS1.1
  obtain ⟨st', hst', K'⟩ := K v _ _ hQ ⟨C.1, C.2.1, C.2.2.1, by rw [show (s0.setVm T'.vm).vm = T'.vm from rfl, hS1.1.alike.findClass]; exact C.2.2.2.1, hZ1, C.2.2.2.2.2⟩ ⟨_, foldS (T := T) hS (by rw [eT]; exact hk0) hS1 hle, Nat.le_refl _⟩ hS1.1
  obtain ⟨s₂, v', S, r⟩ := K' _ _ X' (N.app NL) rfl
  exact ⟨s₂, v', stp.trans (by subst hq hst'; exact S), r⟩
end GoWide
end Jvm.Pilot.@@N@@

namespace Jvm.Pilot.@@N@@
open Jvm Jvm.ClassFile Sem Op Lib Jvm.Free Jvm.Stand Jvm.LawKit Jvm.RoadKit Bundle Jvm.Pilot.@@N@@.Jvm.D
theorem wd0 {Z : State} {a0 : Array Value} (hw : ∀ d ∈ tables_1, d.before a0 Z = true) : (Jvm.Cond.constantLong "com/example/nuthatch/nuthatch/store/JournalTallyWritesPinLaw" (9 : Nat) (9223372036854775807 : Int64)).before a0 Z = true := hw _ (List.mem_of_getElem? (i := 0) rfl)
theorem wd1 {Z : State} {a0 : Array Value} (hw : ∀ d ∈ tables_1, d.before a0 Z = true) : (Jvm.Cond.arrayClass Jvm.ClassFile.FieldType.long).before a0 Z = true := hw _ (List.mem_of_getElem? (i := 1) rfl)
theorem wd2 {Z : State} {a0 : Array Value} (hw : ∀ d ∈ tables_1, d.before a0 Z = true) : (Jvm.Cond.constantLong "com/example/nuthatch/nuthatch/store/JournalTallyWritesPinLaw" (11 : Nat) (2 : Int64)).before a0 Z = true := hw _ (List.mem_of_getElem? (i := 2) rfl)
theorem wd3 {Z : State} {a0 : Array Value} (hw : ∀ d ∈ tables_1, d.before a0 Z = true) : (Jvm.Cond.arrayClass Jvm.ClassFile.FieldType.int).before a0 Z = true := hw _ (List.mem_of_getElem? (i := 3) rfl)
theorem wd4 {Z : State} {a0 : Array Value} (hw : ∀ d ∈ tables_1, d.before a0 Z = true) : (Jvm.Cond.classLink "com/example/nuthatch/nuthatch/store/JournalTallyWritesPinLaw" (13 : Nat) "com/example/nuthatch/nuthatch/store/JournalTally").before a0 Z = true := hw _ (List.mem_of_getElem? (i := 4) rfl)
theorem wd5 {Z : State} {a0 : Array Value} (hw : ∀ d ∈ tables_1, d.before a0 Z = true) : (Jvm.Cond.instantiable "com/example/nuthatch/nuthatch/store/JournalTally" (6 : Nat)).before a0 Z = true := hw _ (List.mem_of_getElem? (i := 5) rfl)
theorem wd6 {Z : State} {a0 : Array Value} (hw : ∀ d ∈ tables_1, d.before a0 Z = true) : (Jvm.Cond.initialized "com/example/nuthatch/nuthatch/store/JournalTally").before a0 Z = true := hw _ (List.mem_of_getElem? (i := 6) rfl)
theorem wd7 {Z : State} {a0 : Array Value} (hw : ∀ d ∈ tables_1, d.before a0 Z = true) : (Jvm.Cond.methodLink "com/example/nuthatch/nuthatch/store/JournalTallyWritesPinLaw" (15 : Nat) ({ cls := "com/example/nuthatch/nuthatch/store/JournalTally", name := "<init>", desc := "()V" } : Jvm.MethodName)).before a0 Z = true := hw _ (List.mem_of_getElem? (i := 7) rfl)
theorem wd8 {Z : State} {a0 : Array Value} (hw : ∀ d ∈ tables_1, d.before a0 Z = true) : (Jvm.Cond.instanceMethod ({ cls := "com/example/nuthatch/nuthatch/store/JournalTally", name := "<init>", desc := "()V" } : Jvm.MethodName)).before a0 Z = true := hw _ (List.mem_of_getElem? (i := 8) rfl)
theorem wd9 {Z : State} {a0 : Array Value} (hw : ∀ d ∈ tables_1, d.before a0 Z = true) : (Jvm.Cond.code ({ cls := "com/example/nuthatch/nuthatch/store/JournalTally", name := "<init>", desc := "()V" } : Jvm.MethodName) prog_42_method_1_code (1 : Nat) (Option.none : Option Jvm.ClassFile.FieldType)).before a0 Z = true := hw _ (List.mem_of_getElem? (i := 9) rfl)
theorem wd10 {Z : State} {a0 : Array Value} (hw : ∀ d ∈ tables_1, d.before a0 Z = true) : (Jvm.Cond.methodLink "com/example/nuthatch/nuthatch/store/JournalTally" (1 : Nat) ({ cls := "java/lang/Object", name := "<init>", desc := "()V" } : Jvm.MethodName)).before a0 Z = true := hw _ (List.mem_of_getElem? (i := 10) rfl)
theorem wd11 {Z : State} {a0 : Array Value} (hw : ∀ d ∈ tables_1, d.before a0 Z = true) : (Jvm.Cond.instanceMethod ({ cls := "java/lang/Object", name := "<init>", desc := "()V" } : Jvm.MethodName)).before a0 Z = true := hw _ (List.mem_of_getElem? (i := 11) rfl)
theorem wd12 {Z : State} {a0 : Array Value} (hw : ∀ d ∈ tables_1, d.before a0 Z = true) : (Jvm.Cond.code ({ cls := "java/lang/Object", name := "<init>", desc := "()V" } : Jvm.MethodName) object_method_1_code (1 : Nat) (Option.none : Option Jvm.ClassFile.FieldType)).before a0 Z = true := hw _ (List.mem_of_getElem? (i := 12) rfl)
theorem wd13 {Z : State} {a0 : Array Value} (hw : ∀ d ∈ tables_1, d.before a0 Z = true) : (Jvm.Cond.fieldLink "com/example/nuthatch/nuthatch/store/JournalTally" (7 : Nat) "com/example/nuthatch/nuthatch/store/JournalTally" "created" "[J").before a0 Z = true := hw _ (List.mem_of_getElem? (i := 13) rfl)
theorem wd14 {Z : State} {a0 : Array Value} (hw : ∀ d ∈ tables_1, d.before a0 Z = true) : (Jvm.Cond.lays "com/example/nuthatch/nuthatch/store/JournalTally" "com/example/nuthatch/nuthatch/store/JournalTally" "created" "[J").before a0 Z = true := hw _ (List.mem_of_getElem? (i := 14) rfl)
theorem wd15 {Z : State} {a0 : Array Value} (hw : ∀ d ∈ tables_1, d.before a0 Z = true) : (Jvm.Cond.fieldLink "com/example/nuthatch/nuthatch/store/JournalTally" (13 : Nat) "com/example/nuthatch/nuthatch/store/JournalTally" "changes" "[I").before a0 Z = true := hw _ (List.mem_of_getElem? (i := 15) rfl)
theorem wd16 {Z : State} {a0 : Array Value} (hw : ∀ d ∈ tables_1, d.before a0 Z = true) : (Jvm.Cond.lays "com/example/nuthatch/nuthatch/store/JournalTally" "com/example/nuthatch/nuthatch/store/JournalTally" "changes" "[I").before a0 Z = true := hw _ (List.mem_of_getElem? (i := 16) rfl)
theorem wd17 {Z : State} {a0 : Array Value} (hw : ∀ d ∈ tables_1, d.before a0 Z = true) : (Jvm.Cond.fieldLink "com/example/nuthatch/nuthatch/store/JournalTally" (17 : Nat) "com/example/nuthatch/nuthatch/store/JournalTally" "ordered" "Z").before a0 Z = true := hw _ (List.mem_of_getElem? (i := 17) rfl)
theorem wd18 {Z : State} {a0 : Array Value} (hw : ∀ d ∈ tables_1, d.before a0 Z = true) : (Jvm.Cond.lays "com/example/nuthatch/nuthatch/store/JournalTally" "com/example/nuthatch/nuthatch/store/JournalTally" "ordered" "Z").before a0 Z = true := hw _ (List.mem_of_getElem? (i := 18) rfl)
theorem wd19 {Z : State} {a0 : Array Value} (hw : ∀ d ∈ tables_1, d.before a0 Z = true) : (Jvm.Cond.methodLink "com/example/nuthatch/nuthatch/store/JournalTallyWritesPinLaw" (16 : Nat) ({ cls := "com/example/nuthatch/nuthatch/store/JournalTallyWritesPinLaw", name := "op", desc := "(Lcom/example/nuthatch/nuthatch/store/JournalTally;[I[I[J[J[IIII)V" } : Jvm.MethodName)).before a0 Z = true := hw _ (List.mem_of_getElem? (i := 19) rfl)
theorem wd20 {Z : State} {a0 : Array Value} (hw : ∀ d ∈ tables_1, d.before a0 Z = true) : (Jvm.Cond.static ({ cls := "com/example/nuthatch/nuthatch/store/JournalTallyWritesPinLaw", name := "op", desc := "(Lcom/example/nuthatch/nuthatch/store/JournalTally;[I[I[J[J[IIII)V" } : Jvm.MethodName)).before a0 Z = true := hw _ (List.mem_of_getElem? (i := 20) rfl)
theorem wd21 {Z : State} {a0 : Array Value} (hw : ∀ d ∈ tables_1, d.before a0 Z = true) : (Jvm.Cond.initialized "com/example/nuthatch/nuthatch/store/JournalTallyWritesPinLaw").before a0 Z = true := hw _ (List.mem_of_getElem? (i := 21) rfl)
theorem wd22 {Z : State} {a0 : Array Value} (hw : ∀ d ∈ tables_1, d.before a0 Z = true) : (Jvm.Cond.code ({ cls := "com/example/nuthatch/nuthatch/store/JournalTallyWritesPinLaw", name := "op", desc := "(Lcom/example/nuthatch/nuthatch/store/JournalTally;[I[I[J[J[IIII)V" } : Jvm.MethodName) method_3_code (14 : Nat) (Option.none : Option Jvm.ClassFile.FieldType)).before a0 Z = true := hw _ (List.mem_of_getElem? (i := 22) rfl)
theorem wd23 {Z : State} {a0 : Array Value} (hw : ∀ d ∈ tables_1, d.before a0 Z = true) : (Jvm.Cond.methodLink "com/example/nuthatch/nuthatch/store/JournalTallyWritesPinLaw" (26 : Nat) ({ cls := "com/example/nuthatch/nuthatch/store/JournalTallyWritesPinLaw", name := "kind", desc := "(I)Lcom/example/nuthatch/nuthatch/store/ChangeRecord$Kind;" } : Jvm.MethodName)).before a0 Z = true := hw _ (List.mem_of_getElem? (i := 23) rfl)
theorem wd24 {Z : State} {a0 : Array Value} (hw : ∀ d ∈ tables_1, d.before a0 Z = true) : (Jvm.Cond.static ({ cls := "com/example/nuthatch/nuthatch/store/JournalTallyWritesPinLaw", name := "kind", desc := "(I)Lcom/example/nuthatch/nuthatch/store/ChangeRecord$Kind;" } : Jvm.MethodName)).before a0 Z = true := hw _ (List.mem_of_getElem? (i := 24) rfl)
theorem wd25 {Z : State} {a0 : Array Value} (hw : ∀ d ∈ tables_1, d.before a0 Z = true) : (Jvm.Cond.code ({ cls := "com/example/nuthatch/nuthatch/store/JournalTallyWritesPinLaw", name := "kind", desc := "(I)Lcom/example/nuthatch/nuthatch/store/ChangeRecord$Kind;" } : Jvm.MethodName) method_4_code (1 : Nat) (Option.some (Jvm.ClassFile.FieldType.object "com/example/nuthatch/nuthatch/store/ChangeRecord$Kind"))).before a0 Z = true := hw _ (List.mem_of_getElem? (i := 25) rfl)
theorem wd26 {Z : State} {a0 : Array Value} (hw : ∀ d ∈ tables_1, d.before a0 Z = true) : (Jvm.Cond.fieldLink "com/example/nuthatch/nuthatch/store/JournalTallyWritesPinLaw" (34 : Nat) "com/example/nuthatch/nuthatch/store/ChangeRecord$Kind" "CREATE" "Lcom/example/nuthatch/nuthatch/store/ChangeRecord$Kind;").before a0 Z = true := hw _ (List.mem_of_getElem? (i := 26) rfl)
theorem wd27 {Z : State} {a0 : Array Value} (hw : ∀ d ∈ tables_1, d.before a0 Z = true) : (Jvm.Cond.initialized "com/example/nuthatch/nuthatch/store/ChangeRecord$Kind").before a0 Z = true := hw _ (List.mem_of_getElem? (i := 27) rfl)
theorem wd28 {Z : State} {a0 : Array Value} (hw : ∀ d ∈ tables_1, d.before a0 Z = true) : (Jvm.Cond.laysStatic "com/example/nuthatch/nuthatch/store/ChangeRecord$Kind" "CREATE" "Lcom/example/nuthatch/nuthatch/store/ChangeRecord$Kind;").before a0 Z = true := hw _ (List.mem_of_getElem? (i := 28) rfl)
theorem wd29 {Z : State} {a0 : Array Value} (hw : ∀ d ∈ tables_1, d.before a0 Z = true) : (Jvm.Cond.methodLink "com/example/nuthatch/nuthatch/store/JournalTallyWritesPinLaw" (30 : Nat) ({ cls := "com/example/nuthatch/nuthatch/store/JournalTally", name := "add", desc := "(Lcom/example/nuthatch/nuthatch/store/ChangeRecord$Kind;J)V" } : Jvm.MethodName)).before a0 Z = true := hw _ (List.mem_of_getElem? (i := 29) rfl)
theorem wd30 {Z : State} {a0 : Array Value} (hw : ∀ d ∈ tables_1, d.before a0 Z = true) : (Jvm.Cond.declares ({ cls := "com/example/nuthatch/nuthatch/store/JournalTally", name := "add", desc := "(Lcom/example/nuthatch/nuthatch/store/ChangeRecord$Kind;J)V" } : Jvm.MethodName)).before a0 Z = true := hw _ (List.mem_of_getElem? (i := 30) rfl)
theorem wd31 {Z : State} {a0 : Array Value} (hw : ∀ d ∈ tables_1, d.before a0 Z = true) : (Jvm.Cond.instanceMethod ({ cls := "com/example/nuthatch/nuthatch/store/JournalTally", name := "add", desc := "(Lcom/example/nuthatch/nuthatch/store/ChangeRecord$Kind;J)V" } : Jvm.MethodName)).before a0 Z = true := hw _ (List.mem_of_getElem? (i := 31) rfl)
theorem wd32 {Z : State} {a0 : Array Value} (hw : ∀ d ∈ tables_1, d.before a0 Z = true) : (Jvm.Cond.selects "com/example/nuthatch/nuthatch/store/JournalTally" ({ cls := "com/example/nuthatch/nuthatch/store/JournalTally", name := "add", desc := "(Lcom/example/nuthatch/nuthatch/store/ChangeRecord$Kind;J)V" } : Jvm.MethodName) ({ cls := "com/example/nuthatch/nuthatch/store/JournalTally", name := "add", desc := "(Lcom/example/nuthatch/nuthatch/store/ChangeRecord$Kind;J)V" } : Jvm.MethodName)).before a0 Z = true := hw _ (List.mem_of_getElem? (i := 32) rfl)
theorem wd33 {Z : State} {a0 : Array Value} (hw : ∀ d ∈ tables_1, d.before a0 Z = true) : (Jvm.Cond.code ({ cls := "com/example/nuthatch/nuthatch/store/JournalTally", name := "add", desc := "(Lcom/example/nuthatch/nuthatch/store/ChangeRecord$Kind;J)V" } : Jvm.MethodName) prog_42_method_2_code (5 : Nat) (Option.none : Option Jvm.ClassFile.FieldType)).before a0 Z = true := hw _ (List.mem_of_getElem? (i := 33) rfl)
theorem wd34 {Z : State} {a0 : Array Value} (hw : ∀ d ∈ tables_1, d.before a0 Z = true) : (Jvm.Cond.methodLink "com/example/nuthatch/nuthatch/store/JournalTally" (21 : Nat) ({ cls := "com/example/nuthatch/nuthatch/store/JournalTally", name := "creation", desc := "(J)I" } : Jvm.MethodName)).before a0 Z = true := hw _ (List.mem_of_getElem? (i := 34) rfl)
theorem wd35 {Z : State} {a0 : Array Value} (hw : ∀ d ∈ tables_1, d.before a0 Z = true) : (Jvm.Cond.instanceMethod ({ cls := "com/example/nuthatch/nuthatch/store/JournalTally", name := "creation", desc := "(J)I" } : Jvm.MethodName)).before a0 Z = true := hw _ (List.mem_of_getElem? (i := 35) rfl)
theorem wd36 {Z : State} {a0 : Array Value} (hw : ∀ d ∈ tables_1, d.before a0 Z = true) : (Jvm.Cond.privateMethod ({ cls := "com/example/nuthatch/nuthatch/store/JournalTally", name := "creation", desc := "(J)I" } : Jvm.MethodName)).before a0 Z = true := hw _ (List.mem_of_getElem? (i := 36) rfl)
theorem wd37 {Z : State} {a0 : Array Value} (hw : ∀ d ∈ tables_1, d.before a0 Z = true) : (Jvm.Cond.code ({ cls := "com/example/nuthatch/nuthatch/store/JournalTally", name := "creation", desc := "(J)I" } : Jvm.MethodName) prog_42_method_6_code (7 : Nat) (Option.some Jvm.ClassFile.FieldType.int)).before a0 Z = true := hw _ (List.mem_of_getElem? (i := 37) rfl)
theorem wd38 {Z : State} {a0 : Array Value} (hw : ∀ d ∈ tables_1, d.before a0 Z = true) : (Jvm.Cond.fieldLink "com/example/nuthatch/nuthatch/store/JournalTally" (31 : Nat) "com/example/nuthatch/nuthatch/store/JournalTally" "creates" "I").before a0 Z = true := hw _ (List.mem_of_getElem? (i := 38) rfl)
theorem wd39 {Z : State} {a0 : Array Value} (hw : ∀ d ∈ tables_1, d.before a0 Z = true) : (Jvm.Cond.lays "com/example/nuthatch/nuthatch/store/JournalTally" "com/example/nuthatch/nuthatch/store/JournalTally" "creates" "I").before a0 Z = true := hw _ (List.mem_of_getElem? (i := 39) rfl)
theorem wd40 {Z : State} {a0 : Array Value} (hw : ∀ d ∈ tables_1, d.before a0 Z = true) : (Jvm.Cond.fieldLink "com/example/nuthatch/nuthatch/store/JournalTally" (25 : Nat) "com/example/nuthatch/nuthatch/store/ChangeRecord$Kind" "CREATE" "Lcom/example/nuthatch/nuthatch/store/ChangeRecord$Kind;").before a0 Z = true := hw _ (List.mem_of_getElem? (i := 40) rfl)
theorem wd41 {Z : State} {a0 : Array Value} (hw : ∀ d ∈ tables_1, d.before a0 Z = true) : (Jvm.Cond.fieldLink "com/example/nuthatch/nuthatch/store/JournalTally" (44 : Nat) "com/example/nuthatch/nuthatch/store/JournalTally" "writes" "I").before a0 Z = true := hw _ (List.mem_of_getElem? (i := 41) rfl)
theorem wd42 {Z : State} {a0 : Array Value} (hw : ∀ d ∈ tables_1, d.before a0 Z = true) : (Jvm.Cond.lays "com/example/nuthatch/nuthatch/store/JournalTally" "com/example/nuthatch/nuthatch/store/JournalTally" "writes" "I").before a0 Z = true := hw _ (List.mem_of_getElem? (i := 42) rfl)
theorem wd43 {Z : State} {a0 : Array Value} (hw : ∀ d ∈ tables_1, d.before a0 Z = true) : (Jvm.Cond.fieldLink "com/example/nuthatch/nuthatch/store/JournalTally" (50 : Nat) "com/example/nuthatch/nuthatch/store/JournalTally" "count" "I").before a0 Z = true := hw _ (List.mem_of_getElem? (i := 43) rfl)
theorem wd44 {Z : State} {a0 : Array Value} (hw : ∀ d ∈ tables_1, d.before a0 Z = true) : (Jvm.Cond.lays "com/example/nuthatch/nuthatch/store/JournalTally" "com/example/nuthatch/nuthatch/store/JournalTally" "count" "I").before a0 Z = true := hw _ (List.mem_of_getElem? (i := 44) rfl)
theorem wd45 {Z : State} {a0 : Array Value} (hw : ∀ d ∈ tables_1, d.before a0 Z = true) : (Jvm.Cond.methodLink "com/example/nuthatch/nuthatch/store/JournalTally" (53 : Nat) ({ cls := "java/util/Arrays", name := "binarySearch", desc := "([JIIJ)I" } : Jvm.MethodName)).before a0 Z = true := hw _ (List.mem_of_getElem? (i := 45) rfl)
theorem wd46 {Z : State} {a0 : Array Value} (hw : ∀ d ∈ tables_1, d.before a0 Z = true) : (Jvm.Cond.static ({ cls := "java/util/Arrays", name := "binarySearch", desc := "([JIIJ)I" } : Jvm.MethodName)).before a0 Z = true := hw _ (List.mem_of_getElem? (i := 46) rfl)
theorem wd47 {Z : State} {a0 : Array Value} (hw : ∀ d ∈ tables_1, d.before a0 Z = true) : (Jvm.Cond.initialized "java/util/Arrays").before a0 Z = true := hw _ (List.mem_of_getElem? (i := 47) rfl)
theorem wd48 {Z : State} {a0 : Array Value} (hw : ∀ d ∈ tables_1, d.before a0 Z = true) : (Jvm.Cond.code ({ cls := "java/util/Arrays", name := "binarySearch", desc := "([JIIJ)I" } : Jvm.MethodName) jdk_65_method_55_code (5 : Nat) (Option.some Jvm.ClassFile.FieldType.int)).before a0 Z = true := hw _ (List.mem_of_getElem? (i := 48) rfl)
theorem wd49 {Z : State} {a0 : Array Value} (hw : ∀ d ∈ tables_1, d.before a0 Z = true) : (Jvm.Cond.methodLink "java/util/Arrays" (13 : Nat) ({ cls := "java/util/Arrays", name := "rangeCheck", desc := "(III)V" } : Jvm.MethodName)).before a0 Z = true := hw _ (List.mem_of_getElem? (i := 49) rfl)
theorem wd50 {Z : State} {a0 : Array Value} (hw : ∀ d ∈ tables_1, d.before a0 Z = true) : (Jvm.Cond.static ({ cls := "java/util/Arrays", name := "rangeCheck", desc := "(III)V" } : Jvm.MethodName)).before a0 Z = true := hw _ (List.mem_of_getElem? (i := 50) rfl)
theorem wd51 {Z : State} {a0 : Array Value} (hw : ∀ d ∈ tables_1, d.before a0 Z = true) : (Jvm.Cond.code ({ cls := "java/util/Arrays", name := "rangeCheck", desc := "(III)V" } : Jvm.MethodName) jdk_65_method_30_code (3 : Nat) (Option.none : Option Jvm.ClassFile.FieldType)).before a0 Z = true := hw _ (List.mem_of_getElem? (i := 51) rfl)
theorem wd52 {Z : State} {a0 : Array Value} (hw : ∀ d ∈ tables_1, d.before a0 Z = true) : (Jvm.Cond.methodLink "java/util/Arrays" (205 : Nat) ({ cls := "java/util/Arrays", name := "binarySearch0", desc := "([JIIJ)I" } : Jvm.MethodName)).before a0 Z = true := hw _ (List.mem_of_getElem? (i := 52) rfl)
theorem wd53 {Z : State} {a0 : Array Value} (hw : ∀ d ∈ tables_1, d.before a0 Z = true) : (Jvm.Cond.static ({ cls := "java/util/Arrays", name := "binarySearch0", desc := "([JIIJ)I" } : Jvm.MethodName)).before a0 Z = true := hw _ (List.mem_of_getElem? (i := 53) rfl)
theorem wd54 {Z : State} {a0 : Array Value} (hw : ∀ d ∈ tables_1, d.before a0 Z = true) : (Jvm.Cond.code ({ cls := "java/util/Arrays", name := "binarySearch0", desc := "([JIIJ)I" } : Jvm.MethodName) jdk_65_method_56_code (10 : Nat) (Option.some Jvm.ClassFile.FieldType.int)).before a0 Z = true := hw _ (List.mem_of_getElem? (i := 54) rfl)
theorem wd55 {Z : State} {a0 : Array Value} (hw : ∀ d ∈ tables_1, d.before a0 Z = true) : (Jvm.Cond.methodLink "com/example/nuthatch/nuthatch/store/JournalTallyWritesPinLaw" (22 : Nat) ({ cls := "com/example/nuthatch/nuthatch/store/JournalTally", name := "writes", desc := "()I" } : Jvm.MethodName)).before a0 Z = true := hw _ (List.mem_of_getElem? (i := 55) rfl)
theorem wd56 {Z : State} {a0 : Array Value} (hw : ∀ d ∈ tables_1, d.before a0 Z = true) : (Jvm.Cond.declares ({ cls := "com/example/nuthatch/nuthatch/store/JournalTally", name := "writes", desc := "()I" } : Jvm.MethodName)).before a0 Z = true := hw _ (List.mem_of_getElem? (i := 56) rfl)
theorem wd57 {Z : State} {a0 : Array Value} (hw : ∀ d ∈ tables_1, d.before a0 Z = true) : (Jvm.Cond.instanceMethod ({ cls := "com/example/nuthatch/nuthatch/store/JournalTally", name := "writes", desc := "()I" } : Jvm.MethodName)).before a0 Z = true := hw _ (List.mem_of_getElem? (i := 57) rfl)
theorem wd58 {Z : State} {a0 : Array Value} (hw : ∀ d ∈ tables_1, d.before a0 Z = true) : (Jvm.Cond.selects "com/example/nuthatch/nuthatch/store/JournalTally" ({ cls := "com/example/nuthatch/nuthatch/store/JournalTally", name := "writes", desc := "()I" } : Jvm.MethodName) ({ cls := "com/example/nuthatch/nuthatch/store/JournalTally", name := "writes", desc := "()I" } : Jvm.MethodName)).before a0 Z = true := hw _ (List.mem_of_getElem? (i := 58) rfl)
theorem wd59 {Z : State} {a0 : Array Value} (hw : ∀ d ∈ tables_1, d.before a0 Z = true) : (Jvm.Cond.code ({ cls := "com/example/nuthatch/nuthatch/store/JournalTally", name := "writes", desc := "()I" } : Jvm.MethodName) prog_42_method_3_code (1 : Nat) (Option.some Jvm.ClassFile.FieldType.int)).before a0 Z = true := hw _ (List.mem_of_getElem? (i := 59) rfl)
theorem wd60 {Z : State} {a0 : Array Value} (hw : ∀ d ∈ tables_1, d.before a0 Z = true) : (Jvm.Cond.fieldLink "com/example/nuthatch/nuthatch/store/JournalTallyWritesPinLaw" (43 : Nat) "com/example/nuthatch/nuthatch/store/ChangeRecord$Kind" "DELETE" "Lcom/example/nuthatch/nuthatch/store/ChangeRecord$Kind;").before a0 Z = true := hw _ (List.mem_of_getElem? (i := 60) rfl)
theorem wd61 {Z : State} {a0 : Array Value} (hw : ∀ d ∈ tables_1, d.before a0 Z = true) : (Jvm.Cond.laysStatic "com/example/nuthatch/nuthatch/store/ChangeRecord$Kind" "DELETE" "Lcom/example/nuthatch/nuthatch/store/ChangeRecord$Kind;").before a0 Z = true := hw _ (List.mem_of_getElem? (i := 61) rfl)
theorem wd62 {Z : State} {a0 : Array Value} (hw : ∀ d ∈ tables_1, d.before a0 Z = true) : (Jvm.Cond.fieldLink "com/example/nuthatch/nuthatch/store/JournalTallyWritesPinLaw" (40 : Nat) "com/example/nuthatch/nuthatch/store/ChangeRecord$Kind" "UPDATE" "Lcom/example/nuthatch/nuthatch/store/ChangeRecord$Kind;").before a0 Z = true := hw _ (List.mem_of_getElem? (i := 62) rfl)
theorem wd63 {Z : State} {a0 : Array Value} (hw : ∀ d ∈ tables_1, d.before a0 Z = true) : (Jvm.Cond.laysStatic "com/example/nuthatch/nuthatch/store/ChangeRecord$Kind" "UPDATE" "Lcom/example/nuthatch/nuthatch/store/ChangeRecord$Kind;").before a0 Z = true := hw _ (List.mem_of_getElem? (i := 63) rfl)
theorem wd64 {Z : State} {a0 : Array Value} (hw : ∀ d ∈ tables_1, d.before a0 Z = true) : (Jvm.Cond.fieldLink "com/example/nuthatch/nuthatch/store/JournalTallyWritesPinLaw" (46 : Nat) "com/example/nuthatch/nuthatch/store/ChangeRecord$Kind" "ASSIGN" "Lcom/example/nuthatch/nuthatch/store/ChangeRecord$Kind;").before a0 Z = true := hw _ (List.mem_of_getElem? (i := 64) rfl)
theorem wd65 {Z : State} {a0 : Array Value} (hw : ∀ d ∈ tables_1, d.before a0 Z = true) : (Jvm.Cond.laysStatic "com/example/nuthatch/nuthatch/store/ChangeRecord$Kind" "ASSIGN" "Lcom/example/nuthatch/nuthatch/store/ChangeRecord$Kind;").before a0 Z = true := hw _ (List.mem_of_getElem? (i := 65) rfl)
theorem wd66 {Z : State} {a0 : Array Value} (hw : ∀ d ∈ tables_1, d.before a0 Z = true) : (Jvm.Cond.fieldLink "com/example/nuthatch/nuthatch/store/JournalTally" (47 : Nat) "com/example/nuthatch/nuthatch/store/ChangeRecord$Kind" "DELETE" "Lcom/example/nuthatch/nuthatch/store/ChangeRecord$Kind;").before a0 Z = true := hw _ (List.mem_of_getElem? (i := 66) rfl)
theorem d1_0 : decode prog_42_method_1_code 0 = .ok (.aload_n 0, 1) := by decide +kernel
theorem d1_1 : decode prog_42_method_1_code 1 = .ok (.invokespecial 1, 3) := by decide +kernel
theorem d1_4 : decode prog_42_method_1_code 4 = .ok (.aload_n 0, 1) := by decide +kernel
theorem d1_5 : decode prog_42_method_1_code 5 = .ok (.bipush 64, 2) := by decide +kernel
theorem d1_7 : decode prog_42_method_1_code 7 = .ok (.newarray .long, 2) := by decide +kernel
theorem d1_9 : decode prog_42_method_1_code 9 = .ok (.putfield 7, 3) := by decide +kernel
theorem d1_12 : decode prog_42_method_1_code 12 = .ok (.aload_n 0, 1) := by decide +kernel
theorem d1_13 : decode prog_42_method_1_code 13 = .ok (.bipush 64, 2) := by decide +kernel
theorem d1_15 : decode prog_42_method_1_code 15 = .ok (.newarray .int, 2) := by decide +kernel
theorem d1_17 : decode prog_42_method_1_code 17 = .ok (.putfield 13, 3) := by decide +kernel
theorem d1_20 : decode prog_42_method_1_code 20 = .ok (.aload_n 0, 1) := by decide +kernel
theorem d1_21 : decode prog_42_method_1_code 21 = .ok (.iconst 1, 1) := by decide +kernel
theorem d1_22 : decode prog_42_method_1_code 22 = .ok (.putfield 17, 3) := by decide +kernel
theorem d1_25 : decode prog_42_method_1_code 25 = .ok (.return_, 1) := by decide +kernel
theorem d3_0 : decode method_3_code 0 = .ok (.iload 6, 2) := by decide +kernel
theorem d3_2 : decode method_3_code 2 = .ok (.iconst 2, 1) := by decide +kernel
theorem d3_3 : decode method_3_code 3 = .ok (.iload 8, 2) := by decide +kernel
theorem d3_5 : decode method_3_code 5 = .ok (.imul, 1) := by decide +kernel
theorem d3_6 : decode method_3_code 6 = .ok (.iushr, 1) := by decide +kernel
theorem d3_7 : decode method_3_code 7 = .ok (.iconst 3, 1) := by decide +kernel
theorem d3_8 : decode method_3_code 8 = .ok (.iand, 1) := by decide +kernel
theorem d3_9 : decode method_3_code 9 = .ok (.istore 9, 2) := by decide +kernel
theorem d3_11 : decode method_3_code 11 = .ok (.iload 7, 2) := by decide +kernel
theorem d3_13 : decode method_3_code 13 = .ok (.iconst 2, 1) := by decide +kernel
theorem d3_14 : decode method_3_code 14 = .ok (.iload 8, 2) := by decide +kernel
theorem d3_16 : decode method_3_code 16 = .ok (.imul, 1) := by decide +kernel
theorem d3_17 : decode method_3_code 17 = .ok (.iushr, 1) := by decide +kernel
theorem d3_18 : decode method_3_code 18 = .ok (.iconst 3, 1) := by decide +kernel
theorem d3_19 : decode method_3_code 19 = .ok (.iand, 1) := by decide +kernel
theorem d3_20 : decode method_3_code 20 = .ok (.istore 10, 2) := by decide +kernel
theorem d3_22 : decode method_3_code 22 = .ok (.aload 4, 2) := by decide +kernel
theorem d3_24 : decode method_3_code 24 = .ok (.iload 10, 2) := by decide +kernel
theorem d3_26 : decode method_3_code 26 = .ok (.laload, 1) := by decide +kernel
theorem d3_27 : decode method_3_code 27 = .ok (.lstore 11, 2) := by decide +kernel
theorem d3_29 : decode method_3_code 29 = .ok (.aload 5, 2) := by decide +kernel
theorem d3_31 : decode method_3_code 31 = .ok (.iload 10, 2) := by decide +kernel
theorem d3_33 : decode method_3_code 33 = .ok (.iaload, 1) := by decide +kernel
theorem d3_34 : decode method_3_code 34 = .ok (.istore 13, 2) := by decide +kernel
theorem d3_36 : decode method_3_code 36 = .ok (.aload_n 0, 1) := by decide +kernel
theorem d3_37 : decode method_3_code 37 = .ok (.iload 9, 2) := by decide +kernel
theorem d3_39 : decode method_3_code 39 = .ok (.invokestatic 26, 3) := by decide +kernel
theorem d3_42 : decode method_3_code 42 = .ok (.lload 11, 2) := by decide +kernel
theorem d3_44 : decode method_3_code 44 = .ok (.invokevirtual 30, 3) := by decide +kernel
theorem d3_47 : decode method_3_code 47 = .ok (.iload 9, 2) := by decide +kernel
theorem d3_49 : decode method_3_code 49 = .ok (.ifCond .ne 39, 3) := by decide +kernel
theorem d3_52 : decode method_3_code 52 = .ok (.aload_n 2, 1) := by decide +kernel
theorem d3_53 : decode method_3_code 53 = .ok (.iconst 3, 1) := by decide +kernel
theorem d3_54 : decode method_3_code 54 = .ok (.iaload, 1) := by decide +kernel
theorem d3_55 : decode method_3_code 55 = .ok (.ifCond .eq 16, 3) := by decide +kernel
theorem d3_58 : decode method_3_code 58 = .ok (.lload 11, 2) := by decide +kernel
theorem d3_60 : decode method_3_code 60 = .ok (.aload_n 3, 1) := by decide +kernel
theorem d3_61 : decode method_3_code 61 = .ok (.iconst 0, 1) := by decide +kernel
theorem d3_62 : decode method_3_code 62 = .ok (.laload, 1) := by decide +kernel
theorem d3_63 : decode method_3_code 63 = .ok (.lcmp, 1) := by decide +kernel
theorem d3_64 : decode method_3_code 64 = .ok (.ifCond .gt 7, 3) := by decide +kernel
theorem d3_67 : decode method_3_code 67 = .ok (.aload_n 2, 1) := by decide +kernel
theorem d3_68 : decode method_3_code 68 = .ok (.iconst 2, 1) := by decide +kernel
theorem d3_69 : decode method_3_code 69 = .ok (.iconst 0, 1) := by decide +kernel
theorem d3_70 : decode method_3_code 70 = .ok (.iastore, 1) := by decide +kernel
theorem d3_71 : decode method_3_code 71 = .ok (.aload_n 3, 1) := by decide +kernel
theorem d3_72 : decode method_3_code 72 = .ok (.iconst 0, 1) := by decide +kernel
theorem d3_73 : decode method_3_code 73 = .ok (.lload 11, 2) := by decide +kernel
theorem d3_75 : decode method_3_code 75 = .ok (.lastore, 1) := by decide +kernel
theorem d3_76 : decode method_3_code 76 = .ok (.aload_n 2, 1) := by decide +kernel
theorem d3_77 : decode method_3_code 77 = .ok (.iconst 3, 1) := by decide +kernel
theorem d3_78 : decode method_3_code 78 = .ok (.iconst 1, 1) := by decide +kernel
theorem d3_79 : decode method_3_code 79 = .ok (.iastore, 1) := by decide +kernel
theorem d3_80 : decode method_3_code 80 = .ok (.aload_n 1, 1) := by decide +kernel
theorem d3_81 : decode method_3_code 81 = .ok (.iload 13, 2) := by decide +kernel
theorem d3_83 : decode method_3_code 83 = .ok (.iconst 1, 1) := by decide +kernel
theorem d3_84 : decode method_3_code 84 = .ok (.iastore, 1) := by decide +kernel
theorem d3_85 : decode method_3_code 85 = .ok (.goto 60, 3) := by decide +kernel
theorem d3_88 : decode method_3_code 88 = .ok (.iload 9, 2) := by decide +kernel
theorem d3_90 : decode method_3_code 90 = .ok (.iconst 2, 1) := by decide +kernel
theorem d3_91 : decode method_3_code 91 = .ok (.if_icmp .ne 31, 3) := by decide +kernel
theorem d3_94 : decode method_3_code 94 = .ok (.aload_n 1, 1) := by decide +kernel
theorem d3_95 : decode method_3_code 95 = .ok (.iload 13, 2) := by decide +kernel
theorem d3_97 : decode method_3_code 97 = .ok (.iaload, 1) := by decide +kernel
theorem d3_98 : decode method_3_code 98 = .ok (.ifCond .le 24, 3) := by decide +kernel
theorem d3_101 : decode method_3_code 101 = .ok (.aload_n 2, 1) := by decide +kernel
theorem d3_102 : decode method_3_code 102 = .ok (.iconst 0, 1) := by decide +kernel
theorem d3_103 : decode method_3_code 103 = .ok (.aload_n 2, 1) := by decide +kernel
theorem d3_104 : decode method_3_code 104 = .ok (.iconst 0, 1) := by decide +kernel
theorem d3_105 : decode method_3_code 105 = .ok (.iaload, 1) := by decide +kernel
theorem d3_106 : decode method_3_code 106 = .ok (.aload_n 1, 1) := by decide +kernel
theorem d3_107 : decode method_3_code 107 = .ok (.iload 13, 2) := by decide +kernel
theorem d3_109 : decode method_3_code 109 = .ok (.iaload, 1) := by decide +kernel
theorem d3_110 : decode method_3_code 110 = .ok (.iadd, 1) := by decide +kernel
theorem d3_111 : decode method_3_code 111 = .ok (.iconst 1, 1) := by decide +kernel
theorem d3_112 : decode method_3_code 112 = .ok (.iadd, 1) := by decide +kernel
theorem d3_113 : decode method_3_code 113 = .ok (.iastore, 1) := by decide +kernel
theorem d3_114 : decode method_3_code 114 = .ok (.aload_n 1, 1) := by decide +kernel
theorem d3_115 : decode method_3_code 115 = .ok (.iload 13, 2) := by decide +kernel
theorem d3_117 : decode method_3_code 117 = .ok (.iconst 0, 1) := by decide +kernel
theorem d3_118 : decode method_3_code 118 = .ok (.iastore, 1) := by decide +kernel
theorem d3_119 : decode method_3_code 119 = .ok (.goto 26, 3) := by decide +kernel
theorem d3_122 : decode method_3_code 122 = .ok (.iload 9, 2) := by decide +kernel
theorem d3_124 : decode method_3_code 124 = .ok (.iconst 2, 1) := by decide +kernel
theorem d3_125 : decode method_3_code 125 = .ok (.if_icmp .eq 20, 3) := by decide +kernel
theorem d3_128 : decode method_3_code 128 = .ok (.aload_n 1, 1) := by decide +kernel
theorem d3_129 : decode method_3_code 129 = .ok (.iload 13, 2) := by decide +kernel
theorem d3_131 : decode method_3_code 131 = .ok (.iaload, 1) := by decide +kernel
theorem d3_132 : decode method_3_code 132 = .ok (.ifCond .le 13, 3) := by decide +kernel
theorem d3_135 : decode method_3_code 135 = .ok (.aload_n 1, 1) := by decide +kernel
theorem d3_136 : decode method_3_code 136 = .ok (.iload 13, 2) := by decide +kernel
theorem d3_138 : decode method_3_code 138 = .ok (.aload_n 1, 1) := by decide +kernel
theorem d3_139 : decode method_3_code 139 = .ok (.iload 13, 2) := by decide +kernel
theorem d3_141 : decode method_3_code 141 = .ok (.iaload, 1) := by decide +kernel
theorem d3_142 : decode method_3_code 142 = .ok (.iconst 1, 1) := by decide +kernel
theorem d3_143 : decode method_3_code 143 = .ok (.iadd, 1) := by decide +kernel
theorem d3_144 : decode method_3_code 144 = .ok (.iastore, 1) := by decide +kernel
theorem d3_145 : decode method_3_code 145 = .ok (.aload_n 2, 1) := by decide +kernel
theorem d3_146 : decode method_3_code 146 = .ok (.iconst 1, 1) := by decide +kernel
theorem d3_147 : decode method_3_code 147 = .ok (.aload_n 2, 1) := by decide +kernel
theorem d3_148 : decode method_3_code 148 = .ok (.iconst 1, 1) := by decide +kernel
theorem d3_149 : decode method_3_code 149 = .ok (.iaload, 1) := by decide +kernel
theorem d3_150 : decode method_3_code 150 = .ok (.iconst 1, 1) := by decide +kernel
theorem d3_151 : decode method_3_code 151 = .ok (.iadd, 1) := by decide +kernel
theorem d3_152 : decode method_3_code 152 = .ok (.iastore, 1) := by decide +kernel
theorem d3_153 : decode method_3_code 153 = .ok (.return_, 1) := by decide +kernel
theorem d4_0 : decode method_4_code 0 = .ok (.iload_n 0, 1) := by decide +kernel
theorem d4_1 : decode method_4_code 1 = .ok (.ifCond .ne 7, 3) := by decide +kernel
theorem d4_4 : decode method_4_code 4 = .ok (.getstatic 34, 3) := by decide +kernel
theorem d4_7 : decode method_4_code 7 = .ok (.areturn, 1) := by decide +kernel
theorem d4_8 : decode method_4_code 8 = .ok (.iload_n 0, 1) := by decide +kernel
theorem d4_9 : decode method_4_code 9 = .ok (.iconst 1, 1) := by decide +kernel
theorem d4_10 : decode method_4_code 10 = .ok (.if_icmp .ne 7, 3) := by decide +kernel
theorem d4_13 : decode method_4_code 13 = .ok (.getstatic 40, 3) := by decide +kernel
theorem d4_16 : decode method_4_code 16 = .ok (.areturn, 1) := by decide +kernel
theorem d4_17 : decode method_4_code 17 = .ok (.iload_n 0, 1) := by decide +kernel
theorem d4_18 : decode method_4_code 18 = .ok (.iconst 2, 1) := by decide +kernel
theorem d4_19 : decode method_4_code 19 = .ok (.if_icmp .ne 7, 3) := by decide +kernel
theorem d4_22 : decode method_4_code 22 = .ok (.getstatic 43, 3) := by decide +kernel
theorem d4_25 : decode method_4_code 25 = .ok (.areturn, 1) := by decide +kernel
theorem d4_26 : decode method_4_code 26 = .ok (.getstatic 46, 3) := by decide +kernel
theorem d4_29 : decode method_4_code 29 = .ok (.areturn, 1) := by decide +kernel
theorem d5_0 : decode prog_42_method_2_code 0 = .ok (.aload_n 0, 1) := by decide +kernel
theorem d5_1 : decode prog_42_method_2_code 1 = .ok (.getfield 17, 3) := by decide +kernel
theorem d5_4 : decode prog_42_method_2_code 4 = .ok (.ifCond .eq 11, 3) := by decide +kernel
theorem d5_7 : decode prog_42_method_2_code 7 = .ok (.aload_n 0, 1) := by decide +kernel
theorem d5_8 : decode prog_42_method_2_code 8 = .ok (.lload_n 2, 1) := by decide +kernel
theorem d5_9 : decode prog_42_method_2_code 9 = .ok (.invokevirtual 21, 3) := by decide +kernel
theorem d5_12 : decode prog_42_method_2_code 12 = .ok (.goto 4, 3) := by decide +kernel
theorem d5_15 : decode prog_42_method_2_code 15 = .ok (.iconst (-1), 1) := by decide +kernel
theorem d5_16 : decode prog_42_method_2_code 16 = .ok (.istore 4, 2) := by decide +kernel
theorem d5_18 : decode prog_42_method_2_code 18 = .ok (.aload_n 1, 1) := by decide +kernel
theorem d5_19 : decode prog_42_method_2_code 19 = .ok (.getstatic 25, 3) := by decide +kernel
theorem d5_22 : decode prog_42_method_2_code 22 = .ok (.if_acmp .ne 129, 3) := by decide +kernel
theorem d5_25 : decode prog_42_method_2_code 25 = .ok (.aload_n 0, 1) := by decide +kernel
theorem d5_26 : decode prog_42_method_2_code 26 = .ok (.dup, 1) := by decide +kernel
theorem d5_27 : decode prog_42_method_2_code 27 = .ok (.getfield 17, 3) := by decide +kernel
theorem d5_30 : decode prog_42_method_2_code 30 = .ok (.aload_n 0, 1) := by decide +kernel
theorem d5_31 : decode prog_42_method_2_code 31 = .ok (.getfield 31, 3) := by decide +kernel
theorem d5_34 : decode prog_42_method_2_code 34 = .ok (.ifCond .eq 19, 3) := by decide +kernel
theorem d5_37 : decode prog_42_method_2_code 37 = .ok (.lload_n 2, 1) := by decide +kernel
theorem d5_38 : decode prog_42_method_2_code 38 = .ok (.aload_n 0, 1) := by decide +kernel
theorem d5_39 : decode prog_42_method_2_code 39 = .ok (.getfield 7, 3) := by decide +kernel
theorem d5_42 : decode prog_42_method_2_code 42 = .ok (.aload_n 0, 1) := by decide +kernel
theorem d5_43 : decode prog_42_method_2_code 43 = .ok (.getfield 31, 3) := by decide +kernel
theorem d5_46 : decode prog_42_method_2_code 46 = .ok (.iconst 1, 1) := by decide +kernel
theorem d5_47 : decode prog_42_method_2_code 47 = .ok (.isub, 1) := by decide +kernel
theorem d5_48 : decode prog_42_method_2_code 48 = .ok (.laload, 1) := by decide +kernel
theorem d5_49 : decode prog_42_method_2_code 49 = .ok (.lcmp, 1) := by decide +kernel
theorem d5_50 : decode prog_42_method_2_code 50 = .ok (.ifCond .le 7, 3) := by decide +kernel
theorem d5_53 : decode prog_42_method_2_code 53 = .ok (.iconst 1, 1) := by decide +kernel
theorem d5_54 : decode prog_42_method_2_code 54 = .ok (.goto 4, 3) := by decide +kernel
theorem d5_57 : decode prog_42_method_2_code 57 = .ok (.iconst 0, 1) := by decide +kernel
theorem d5_58 : decode prog_42_method_2_code 58 = .ok (.iand, 1) := by decide +kernel
theorem d5_59 : decode prog_42_method_2_code 59 = .ok (.putfield 17, 3) := by decide +kernel
theorem d5_62 : decode prog_42_method_2_code 62 = .ok (.aload_n 0, 1) := by decide +kernel
theorem d5_63 : decode prog_42_method_2_code 63 = .ok (.getfield 31, 3) := by decide +kernel
theorem d5_66 : decode prog_42_method_2_code 66 = .ok (.aload_n 0, 1) := by decide +kernel
theorem d5_67 : decode prog_42_method_2_code 67 = .ok (.getfield 7, 3) := by decide +kernel
theorem d5_70 : decode prog_42_method_2_code 70 = .ok (.arraylength, 1) := by decide +kernel
theorem d5_71 : decode prog_42_method_2_code 71 = .ok (.if_icmp .ne 37, 3) := by decide +kernel
theorem d5_108 : decode prog_42_method_2_code 108 = .ok (.aload_n 0, 1) := by decide +kernel
theorem d5_109 : decode prog_42_method_2_code 109 = .ok (.getfield 7, 3) := by decide +kernel
theorem d5_112 : decode prog_42_method_2_code 112 = .ok (.aload_n 0, 1) := by decide +kernel
theorem d5_113 : decode prog_42_method_2_code 113 = .ok (.getfield 31, 3) := by decide +kernel
theorem d5_116 : decode prog_42_method_2_code 116 = .ok (.lload_n 2, 1) := by decide +kernel
theorem d5_117 : decode prog_42_method_2_code 117 = .ok (.lastore, 1) := by decide +kernel
theorem d5_118 : decode prog_42_method_2_code 118 = .ok (.aload_n 0, 1) := by decide +kernel
theorem d5_119 : decode prog_42_method_2_code 119 = .ok (.getfield 13, 3) := by decide +kernel
theorem d5_122 : decode prog_42_method_2_code 122 = .ok (.aload_n 0, 1) := by decide +kernel
theorem d5_123 : decode prog_42_method_2_code 123 = .ok (.getfield 31, 3) := by decide +kernel
theorem d5_126 : decode prog_42_method_2_code 126 = .ok (.iconst 1, 1) := by decide +kernel
theorem d5_127 : decode prog_42_method_2_code 127 = .ok (.iastore, 1) := by decide +kernel
theorem d5_128 : decode prog_42_method_2_code 128 = .ok (.aload_n 0, 1) := by decide +kernel
theorem d5_129 : decode prog_42_method_2_code 129 = .ok (.dup, 1) := by decide +kernel
theorem d5_130 : decode prog_42_method_2_code 130 = .ok (.getfield 31, 3) := by decide +kernel
theorem d5_133 : decode prog_42_method_2_code 133 = .ok (.iconst 1, 1) := by decide +kernel
theorem d5_134 : decode prog_42_method_2_code 134 = .ok (.iadd, 1) := by decide +kernel
theorem d5_135 : decode prog_42_method_2_code 135 = .ok (.putfield 31, 3) := by decide +kernel
theorem d5_138 : decode prog_42_method_2_code 138 = .ok (.aload_n 0, 1) := by decide +kernel
theorem d5_139 : decode prog_42_method_2_code 139 = .ok (.dup, 1) := by decide +kernel
theorem d5_140 : decode prog_42_method_2_code 140 = .ok (.getfield 44, 3) := by decide +kernel
theorem d5_143 : decode prog_42_method_2_code 143 = .ok (.iconst 1, 1) := by decide +kernel
theorem d5_144 : decode prog_42_method_2_code 144 = .ok (.iadd, 1) := by decide +kernel
theorem d5_145 : decode prog_42_method_2_code 145 = .ok (.putfield 44, 3) := by decide +kernel
theorem d5_148 : decode prog_42_method_2_code 148 = .ok (.goto 88, 3) := by decide +kernel
theorem d5_151 : decode prog_42_method_2_code 151 = .ok (.iload 4, 2) := by decide +kernel
theorem d5_153 : decode prog_42_method_2_code 153 = .ok (.ifCond .lt 47, 3) := by decide +kernel
theorem d5_156 : decode prog_42_method_2_code 156 = .ok (.aload_n 0, 1) := by decide +kernel
theorem d5_157 : decode prog_42_method_2_code 157 = .ok (.getfield 13, 3) := by decide +kernel
theorem d5_160 : decode prog_42_method_2_code 160 = .ok (.iload 4, 2) := by decide +kernel
theorem d5_162 : decode prog_42_method_2_code 162 = .ok (.iaload, 1) := by decide +kernel
theorem d5_163 : decode prog_42_method_2_code 163 = .ok (.ifCond .le 37, 3) := by decide +kernel
theorem d5_166 : decode prog_42_method_2_code 166 = .ok (.aload_n 1, 1) := by decide +kernel
theorem d5_167 : decode prog_42_method_2_code 167 = .ok (.getstatic 47, 3) := by decide +kernel
theorem d5_170 : decode prog_42_method_2_code 170 = .ok (.if_acmp .ne 30, 3) := by decide +kernel
theorem d5_173 : decode prog_42_method_2_code 173 = .ok (.aload_n 0, 1) := by decide +kernel
theorem d5_174 : decode prog_42_method_2_code 174 = .ok (.dup, 1) := by decide +kernel
theorem d5_175 : decode prog_42_method_2_code 175 = .ok (.getfield 44, 3) := by decide +kernel
theorem d5_178 : decode prog_42_method_2_code 178 = .ok (.aload_n 0, 1) := by decide +kernel
theorem d5_179 : decode prog_42_method_2_code 179 = .ok (.getfield 13, 3) := by decide +kernel
theorem d5_182 : decode prog_42_method_2_code 182 = .ok (.iload 4, 2) := by decide +kernel
theorem d5_184 : decode prog_42_method_2_code 184 = .ok (.iaload, 1) := by decide +kernel
theorem d5_185 : decode prog_42_method_2_code 185 = .ok (.isub, 1) := by decide +kernel
theorem d5_186 : decode prog_42_method_2_code 186 = .ok (.putfield 44, 3) := by decide +kernel
theorem d5_189 : decode prog_42_method_2_code 189 = .ok (.aload_n 0, 1) := by decide +kernel
theorem d5_190 : decode prog_42_method_2_code 190 = .ok (.getfield 13, 3) := by decide +kernel
theorem d5_193 : decode prog_42_method_2_code 193 = .ok (.iload 4, 2) := by decide +kernel
theorem d5_195 : decode prog_42_method_2_code 195 = .ok (.iconst 0, 1) := by decide +kernel
theorem d5_196 : decode prog_42_method_2_code 196 = .ok (.iastore, 1) := by decide +kernel
theorem d5_197 : decode prog_42_method_2_code 197 = .ok (.goto 39, 3) := by decide +kernel
theorem d5_200 : decode prog_42_method_2_code 200 = .ok (.iload 4, 2) := by decide +kernel
theorem d5_202 : decode prog_42_method_2_code 202 = .ok (.ifCond .lt 24, 3) := by decide +kernel
theorem d5_205 : decode prog_42_method_2_code 205 = .ok (.aload_n 0, 1) := by decide +kernel
theorem d5_206 : decode prog_42_method_2_code 206 = .ok (.getfield 13, 3) := by decide +kernel
theorem d5_209 : decode prog_42_method_2_code 209 = .ok (.iload 4, 2) := by decide +kernel
theorem d5_211 : decode prog_42_method_2_code 211 = .ok (.iaload, 1) := by decide +kernel
theorem d5_212 : decode prog_42_method_2_code 212 = .ok (.ifCond .le 14, 3) := by decide +kernel
theorem d5_215 : decode prog_42_method_2_code 215 = .ok (.aload_n 0, 1) := by decide +kernel
theorem d5_216 : decode prog_42_method_2_code 216 = .ok (.getfield 13, 3) := by decide +kernel
theorem d5_219 : decode prog_42_method_2_code 219 = .ok (.iload 4, 2) := by decide +kernel
theorem d5_221 : decode prog_42_method_2_code 221 = .ok (.dup2, 1) := by decide +kernel
theorem d5_222 : decode prog_42_method_2_code 222 = .ok (.iaload, 1) := by decide +kernel
theorem d5_223 : decode prog_42_method_2_code 223 = .ok (.iconst 1, 1) := by decide +kernel
theorem d5_224 : decode prog_42_method_2_code 224 = .ok (.iadd, 1) := by decide +kernel
theorem d5_225 : decode prog_42_method_2_code 225 = .ok (.iastore, 1) := by decide +kernel
theorem d5_226 : decode prog_42_method_2_code 226 = .ok (.aload_n 0, 1) := by decide +kernel
theorem d5_227 : decode prog_42_method_2_code 227 = .ok (.dup, 1) := by decide +kernel
theorem d5_228 : decode prog_42_method_2_code 228 = .ok (.getfield 44, 3) := by decide +kernel
theorem d5_231 : decode prog_42_method_2_code 231 = .ok (.iconst 1, 1) := by decide +kernel
theorem d5_232 : decode prog_42_method_2_code 232 = .ok (.iadd, 1) := by decide +kernel
theorem d5_233 : decode prog_42_method_2_code 233 = .ok (.putfield 44, 3) := by decide +kernel
theorem d5_236 : decode prog_42_method_2_code 236 = .ok (.aload_n 0, 1) := by decide +kernel
theorem d5_237 : decode prog_42_method_2_code 237 = .ok (.dup, 1) := by decide +kernel
theorem d5_238 : decode prog_42_method_2_code 238 = .ok (.getfield 50, 3) := by decide +kernel
theorem d5_241 : decode prog_42_method_2_code 241 = .ok (.iconst 1, 1) := by decide +kernel
theorem d5_242 : decode prog_42_method_2_code 242 = .ok (.iadd, 1) := by decide +kernel
theorem d5_243 : decode prog_42_method_2_code 243 = .ok (.putfield 50, 3) := by decide +kernel
theorem d5_246 : decode prog_42_method_2_code 246 = .ok (.return_, 1) := by decide +kernel
theorem d6_0 : decode prog_42_method_6_code 0 = .ok (.iconst (-1), 1) := by decide +kernel
theorem d6_1 : decode prog_42_method_6_code 1 = .ok (.istore_n 3, 1) := by decide +kernel
theorem d6_2 : decode prog_42_method_6_code 2 = .ok (.aload_n 0, 1) := by decide +kernel
theorem d6_3 : decode prog_42_method_6_code 3 = .ok (.getfield 31, 3) := by decide +kernel
theorem d6_6 : decode prog_42_method_6_code 6 = .ok (.ifCond .le 104, 3) := by decide +kernel
theorem d6_9 : decode prog_42_method_6_code 9 = .ok (.lload_n 1, 1) := by decide +kernel
theorem d6_10 : decode prog_42_method_6_code 10 = .ok (.aload_n 0, 1) := by decide +kernel
theorem d6_11 : decode prog_42_method_6_code 11 = .ok (.getfield 7, 3) := by decide +kernel
theorem d6_14 : decode prog_42_method_6_code 14 = .ok (.aload_n 0, 1) := by decide +kernel
theorem d6_15 : decode prog_42_method_6_code 15 = .ok (.getfield 31, 3) := by decide +kernel
theorem d6_18 : decode prog_42_method_6_code 18 = .ok (.iconst 1, 1) := by decide +kernel
theorem d6_19 : decode prog_42_method_6_code 19 = .ok (.isub, 1) := by decide +kernel
theorem d6_20 : decode prog_42_method_6_code 20 = .ok (.laload, 1) := by decide +kernel
theorem d6_21 : decode prog_42_method_6_code 21 = .ok (.lcmp, 1) := by decide +kernel
theorem d6_22 : decode prog_42_method_6_code 22 = .ok (.ifCond .gt 88, 3) := by decide +kernel
theorem d6_25 : decode prog_42_method_6_code 25 = .ok (.aload_n 0, 1) := by decide +kernel
theorem d6_26 : decode prog_42_method_6_code 26 = .ok (.getfield 7, 3) := by decide +kernel
theorem d6_29 : decode prog_42_method_6_code 29 = .ok (.aload_n 0, 1) := by decide +kernel
theorem d6_30 : decode prog_42_method_6_code 30 = .ok (.getfield 31, 3) := by decide +kernel
theorem d6_33 : decode prog_42_method_6_code 33 = .ok (.iconst 1, 1) := by decide +kernel
theorem d6_34 : decode prog_42_method_6_code 34 = .ok (.isub, 1) := by decide +kernel
theorem d6_35 : decode prog_42_method_6_code 35 = .ok (.laload, 1) := by decide +kernel
theorem d6_36 : decode prog_42_method_6_code 36 = .ok (.lload_n 1, 1) := by decide +kernel
theorem d6_37 : decode prog_42_method_6_code 37 = .ok (.lsub, 1) := by decide +kernel
theorem d6_38 : decode prog_42_method_6_code 38 = .ok (.lstore 4, 2) := by decide +kernel
theorem d6_40 : decode prog_42_method_6_code 40 = .ok (.lload 4, 2) := by decide +kernel
theorem d6_42 : decode prog_42_method_6_code 42 = .ok (.aload_n 0, 1) := by decide +kernel
theorem d6_43 : decode prog_42_method_6_code 43 = .ok (.getfield 31, 3) := by decide +kernel
theorem d6_46 : decode prog_42_method_6_code 46 = .ok (.i2l, 1) := by decide +kernel
theorem d6_47 : decode prog_42_method_6_code 47 = .ok (.lcmp, 1) := by decide +kernel
theorem d6_48 : decode prog_42_method_6_code 48 = .ok (.ifCond .ge 27, 3) := by decide +kernel
theorem d6_51 : decode prog_42_method_6_code 51 = .ok (.aload_n 0, 1) := by decide +kernel
theorem d6_52 : decode prog_42_method_6_code 52 = .ok (.getfield 7, 3) := by decide +kernel
theorem d6_55 : decode prog_42_method_6_code 55 = .ok (.aload_n 0, 1) := by decide +kernel
theorem d6_56 : decode prog_42_method_6_code 56 = .ok (.getfield 31, 3) := by decide +kernel
theorem d6_59 : decode prog_42_method_6_code 59 = .ok (.iconst 1, 1) := by decide +kernel
theorem d6_60 : decode prog_42_method_6_code 60 = .ok (.isub, 1) := by decide +kernel
theorem d6_61 : decode prog_42_method_6_code 61 = .ok (.lload 4, 2) := by decide +kernel
theorem d6_63 : decode prog_42_method_6_code 63 = .ok (.l2i, 1) := by decide +kernel
theorem d6_64 : decode prog_42_method_6_code 64 = .ok (.isub, 1) := by decide +kernel
theorem d6_65 : decode prog_42_method_6_code 65 = .ok (.laload, 1) := by decide +kernel
theorem d6_66 : decode prog_42_method_6_code 66 = .ok (.lload_n 1, 1) := by decide +kernel
theorem d6_67 : decode prog_42_method_6_code 67 = .ok (.lcmp, 1) := by decide +kernel
theorem d6_68 : decode prog_42_method_6_code 68 = .ok (.ifCond .ne 7, 3) := by decide +kernel
theorem d6_71 : decode prog_42_method_6_code 71 = .ok (.iconst 1, 1) := by decide +kernel
theorem d6_72 : decode prog_42_method_6_code 72 = .ok (.goto 4, 3) := by decide +kernel
theorem d6_75 : decode prog_42_method_6_code 75 = .ok (.iconst 0, 1) := by decide +kernel
theorem d6_76 : decode prog_42_method_6_code 76 = .ok (.istore 6, 2) := by decide +kernel
theorem d6_78 : decode prog_42_method_6_code 78 = .ok (.iload 6, 2) := by decide +kernel
theorem d6_80 : decode prog_42_method_6_code 80 = .ok (.ifCond .eq 16, 3) := by decide +kernel
theorem d6_83 : decode prog_42_method_6_code 83 = .ok (.aload_n 0, 1) := by decide +kernel
theorem d6_84 : decode prog_42_method_6_code 84 = .ok (.getfield 31, 3) := by decide +kernel
theorem d6_87 : decode prog_42_method_6_code 87 = .ok (.iconst 1, 1) := by decide +kernel
theorem d6_88 : decode prog_42_method_6_code 88 = .ok (.isub, 1) := by decide +kernel
theorem d6_89 : decode prog_42_method_6_code 89 = .ok (.lload 4, 2) := by decide +kernel
theorem d6_91 : decode prog_42_method_6_code 91 = .ok (.l2i, 1) := by decide +kernel
theorem d6_92 : decode prog_42_method_6_code 92 = .ok (.isub, 1) := by decide +kernel
theorem d6_93 : decode prog_42_method_6_code 93 = .ok (.goto 16, 3) := by decide +kernel
theorem d6_96 : decode prog_42_method_6_code 96 = .ok (.aload_n 0, 1) := by decide +kernel
theorem d6_97 : decode prog_42_method_6_code 97 = .ok (.getfield 7, 3) := by decide +kernel
theorem d6_100 : decode prog_42_method_6_code 100 = .ok (.iconst 0, 1) := by decide +kernel
theorem d6_101 : decode prog_42_method_6_code 101 = .ok (.aload_n 0, 1) := by decide +kernel
theorem d6_102 : decode prog_42_method_6_code 102 = .ok (.getfield 31, 3) := by decide +kernel
theorem d6_105 : decode prog_42_method_6_code 105 = .ok (.lload_n 1, 1) := by decide +kernel
theorem d6_106 : decode prog_42_method_6_code 106 = .ok (.invokestatic 53, 3) := by decide +kernel
theorem d6_109 : decode prog_42_method_6_code 109 = .ok (.istore_n 3, 1) := by decide +kernel
theorem d6_110 : decode prog_42_method_6_code 110 = .ok (.iload_n 3, 1) := by decide +kernel
theorem d6_111 : decode prog_42_method_6_code 111 = .ok (.ireturn, 1) := by decide +kernel
theorem d7_0 : decode jdk_65_method_55_code 0 = .ok (.aload_n 0, 1) := by decide +kernel
theorem d7_1 : decode jdk_65_method_55_code 1 = .ok (.arraylength, 1) := by decide +kernel
theorem d7_2 : decode jdk_65_method_55_code 2 = .ok (.iload_n 1, 1) := by decide +kernel
theorem d7_3 : decode jdk_65_method_55_code 3 = .ok (.iload_n 2, 1) := by decide +kernel
theorem d7_4 : decode jdk_65_method_55_code 4 = .ok (.invokestatic 13, 3) := by decide +kernel
theorem d7_7 : decode jdk_65_method_55_code 7 = .ok (.aload_n 0, 1) := by decide +kernel
theorem d7_8 : decode jdk_65_method_55_code 8 = .ok (.iload_n 1, 1) := by decide +kernel
theorem d7_9 : decode jdk_65_method_55_code 9 = .ok (.iload_n 2, 1) := by decide +kernel
theorem d7_10 : decode jdk_65_method_55_code 10 = .ok (.lload_n 3, 1) := by decide +kernel
theorem d7_11 : decode jdk_65_method_55_code 11 = .ok (.invokestatic 205, 3) := by decide +kernel
theorem d7_14 : decode jdk_65_method_55_code 14 = .ok (.ireturn, 1) := by decide +kernel
theorem d8_0 : decode jdk_65_method_30_code 0 = .ok (.iload_n 1, 1) := by decide +kernel
theorem d8_1 : decode jdk_65_method_30_code 1 = .ok (.iload_n 2, 1) := by decide +kernel
theorem d8_2 : decode jdk_65_method_30_code 2 = .ok (.if_icmp .le 44, 3) := by decide +kernel
theorem d8_46 : decode jdk_65_method_30_code 46 = .ok (.iload_n 1, 1) := by decide +kernel
theorem d8_47 : decode jdk_65_method_30_code 47 = .ok (.ifCond .ge 12, 3) := by decide +kernel
theorem d8_59 : decode jdk_65_method_30_code 59 = .ok (.iload_n 2, 1) := by decide +kernel
theorem d8_60 : decode jdk_65_method_30_code 60 = .ok (.iload_n 0, 1) := by decide +kernel
theorem d8_61 : decode jdk_65_method_30_code 61 = .ok (.if_icmp .le 12, 3) := by decide +kernel
theorem d8_73 : decode jdk_65_method_30_code 73 = .ok (.return_, 1) := by decide +kernel
theorem d9_0 : decode jdk_65_method_56_code 0 = .ok (.iload_n 1, 1) := by decide +kernel
theorem d9_1 : decode jdk_65_method_56_code 1 = .ok (.istore 5, 2) := by decide +kernel
theorem d9_3 : decode jdk_65_method_56_code 3 = .ok (.iload_n 2, 1) := by decide +kernel
theorem d9_4 : decode jdk_65_method_56_code 4 = .ok (.iconst 1, 1) := by decide +kernel
theorem d9_5 : decode jdk_65_method_56_code 5 = .ok (.isub, 1) := by decide +kernel
theorem d9_6 : decode jdk_65_method_56_code 6 = .ok (.istore 6, 2) := by decide +kernel
theorem d9_8 : decode jdk_65_method_56_code 8 = .ok (.iload 5, 2) := by decide +kernel
theorem d9_10 : decode jdk_65_method_56_code 10 = .ok (.iload 6, 2) := by decide +kernel
theorem d9_12 : decode jdk_65_method_56_code 12 = .ok (.if_icmp .gt 56, 3) := by decide +kernel
theorem d9_15 : decode jdk_65_method_56_code 15 = .ok (.iload 5, 2) := by decide +kernel
theorem d9_17 : decode jdk_65_method_56_code 17 = .ok (.iload 6, 2) := by decide +kernel
theorem d9_19 : decode jdk_65_method_56_code 19 = .ok (.iadd, 1) := by decide +kernel
theorem d9_20 : decode jdk_65_method_56_code 20 = .ok (.iconst 1, 1) := by decide +kernel
theorem d9_21 : decode jdk_65_method_56_code 21 = .ok (.iushr, 1) := by decide +kernel
theorem d9_22 : decode jdk_65_method_56_code 22 = .ok (.istore 7, 2) := by decide +kernel
theorem d9_24 : decode jdk_65_method_56_code 24 = .ok (.aload_n 0, 1) := by decide +kernel
theorem d9_25 : decode jdk_65_method_56_code 25 = .ok (.iload 7, 2) := by decide +kernel
theorem d9_27 : decode jdk_65_method_56_code 27 = .ok (.laload, 1) := by decide +kernel
theorem d9_28 : decode jdk_65_method_56_code 28 = .ok (.lstore 8, 2) := by decide +kernel
theorem d9_30 : decode jdk_65_method_56_code 30 = .ok (.lload 8, 2) := by decide +kernel
theorem d9_32 : decode jdk_65_method_56_code 32 = .ok (.lload_n 3, 1) := by decide +kernel
theorem d9_33 : decode jdk_65_method_56_code 33 = .ok (.lcmp, 1) := by decide +kernel
theorem d9_34 : decode jdk_65_method_56_code 34 = .ok (.ifCond .ge 12, 3) := by decide +kernel
theorem d9_37 : decode jdk_65_method_56_code 37 = .ok (.iload 7, 2) := by decide +kernel
theorem d9_39 : decode jdk_65_method_56_code 39 = .ok (.iconst 1, 1) := by decide +kernel
theorem d9_40 : decode jdk_65_method_56_code 40 = .ok (.iadd, 1) := by decide +kernel
theorem d9_41 : decode jdk_65_method_56_code 41 = .ok (.istore 5, 2) := by decide +kernel
theorem d9_43 : decode jdk_65_method_56_code 43 = .ok (.goto 22, 3) := by decide +kernel
theorem d9_46 : decode jdk_65_method_56_code 46 = .ok (.lload 8, 2) := by decide +kernel
theorem d9_48 : decode jdk_65_method_56_code 48 = .ok (.lload_n 3, 1) := by decide +kernel
theorem d9_49 : decode jdk_65_method_56_code 49 = .ok (.lcmp, 1) := by decide +kernel
theorem d9_50 : decode jdk_65_method_56_code 50 = .ok (.ifCond .le 12, 3) := by decide +kernel
theorem d9_53 : decode jdk_65_method_56_code 53 = .ok (.iload 7, 2) := by decide +kernel
theorem d9_55 : decode jdk_65_method_56_code 55 = .ok (.iconst 1, 1) := by decide +kernel
theorem d9_56 : decode jdk_65_method_56_code 56 = .ok (.isub, 1) := by decide +kernel
theorem d9_57 : decode jdk_65_method_56_code 57 = .ok (.istore 6, 2) := by decide +kernel
theorem d9_59 : decode jdk_65_method_56_code 59 = .ok (.goto 6, 3) := by decide +kernel
theorem d9_62 : decode jdk_65_method_56_code 62 = .ok (.iload 7, 2) := by decide +kernel
theorem d9_64 : decode jdk_65_method_56_code 64 = .ok (.ireturn, 1) := by decide +kernel
theorem d9_65 : decode jdk_65_method_56_code 65 = .ok (.goto (-57), 3) := by decide +kernel
theorem d9_68 : decode jdk_65_method_56_code 68 = .ok (.iload 5, 2) := by decide +kernel
theorem d9_70 : decode jdk_65_method_56_code 70 = .ok (.iconst 1, 1) := by decide +kernel
theorem d9_71 : decode jdk_65_method_56_code 71 = .ok (.iadd, 1) := by decide +kernel
theorem d9_72 : decode jdk_65_method_56_code 72 = .ok (.ineg, 1) := by decide +kernel
theorem d9_73 : decode jdk_65_method_56_code 73 = .ok (.ireturn, 1) := by decide +kernel
theorem d10_0 : decode prog_42_method_3_code 0 = .ok (.aload_n 0, 1) := by decide +kernel
theorem d10_1 : decode prog_42_method_3_code 1 = .ok (.getfield 17, 3) := by decide +kernel
theorem d10_4 : decode prog_42_method_3_code 4 = .ok (.ifCond .eq 10, 3) := by decide +kernel
theorem d10_7 : decode prog_42_method_3_code 7 = .ok (.aload_n 0, 1) := by decide +kernel
theorem d10_8 : decode prog_42_method_3_code 8 = .ok (.getfield 44, 3) := by decide +kernel
theorem d10_11 : decode prog_42_method_3_code 11 = .ok (.goto 7, 3) := by decide +kernel
theorem d10_14 : decode prog_42_method_3_code 14 = .ok (.aload_n 0, 1) := by decide +kernel
theorem d10_15 : decode prog_42_method_3_code 15 = .ok (.getfield 50, 3) := by decide +kernel
theorem d10_18 : decode prog_42_method_3_code 18 = .ok (.ireturn, 1) := by decide +kernel
theorem pd0 : parseMethodDescriptor "(III)V" = some ⟨[.int, .int, .int], none⟩ := by decide +kernel
theorem pd1 : parseMethodDescriptor "([JIIJ)I" = some ⟨[(.array .long), .int, .int, .long], some .int⟩ := by decide +kernel
theorem pd2 : parseMethodDescriptor "(J)I" = some ⟨[.long], some .int⟩ := by decide +kernel
theorem pd3 : parseMethodDescriptor "(I)Lcom/example/nuthatch/nuthatch/store/ChangeRecord$Kind;" = some ⟨[.int], some (.object "com/example/nuthatch/nuthatch/store/ChangeRecord$Kind")⟩ := by decide +kernel
theorem pd4 : parseMethodDescriptor "(Lcom/example/nuthatch/nuthatch/store/ChangeRecord$Kind;J)V" = some ⟨[(.object "com/example/nuthatch/nuthatch/store/ChangeRecord$Kind"), .long], none⟩ := by decide +kernel
theorem pd5 : parseMethodDescriptor "()V" = some ⟨[], none⟩ := by decide +kernel
theorem pd6 : parseMethodDescriptor "(Lcom/example/nuthatch/nuthatch/store/JournalTally;[I[I[J[J[IIII)V" = some ⟨[(.object "com/example/nuthatch/nuthatch/store/JournalTally"), (.array .int), (.array .int), (.array .long), (.array .long), (.array .int), .int, .int, .int], none⟩ := by decide +kernel
theorem pd7 : parseMethodDescriptor "()I" = some ⟨[], some .int⟩ := by decide +kernel
theorem pn0 : plainName "java/util/Arrays" = true := by first | (simp [plainName, overriddenIn]; done) | decide +kernel
theorem pn1 : plainName "com/example/nuthatch/nuthatch/store/JournalTally" = true := by first | (simp [plainName, overriddenIn]; done) | decide +kernel
theorem pn2 : plainName "com/example/nuthatch/nuthatch/store/JournalTallyWritesPinLaw" = true := by first | (simp [plainName, overriddenIn]; done) | decide +kernel
abbrev rm0 : Room := { frames := 0, cells := 0, slots := 0, locals := 0 }
abbrev rmC : Room := { frames := 1, cells := 2, slots := 128, locals := 16 }
abbrev rmB : Room := { frames := 1, cells := 0, slots := 0, locals := 40 }
abbrev rmCr : Room := { frames := 2, cells := 0, slots := 0, locals := 64 }
abbrev rmAdd : Room := { frames := 3, cells := 0, slots := 0, locals := 96 }
theorem ofNat_toInt {k : Nat} (h : k < 2 ^ 31) : (Int32.ofNat k).toInt = k := Int32.toInt_ofNat_of_lt h
theorem ofNat_inj {i j : Nat} (hi : i < 2 ^ 31) (hj : j < 2 ^ 31) (e : Int32.ofNat i = Int32.ofNat j) : i = j := by
  have := congrArg Int32.toInt e
  rw [ofNat_toInt hi, ofNat_toInt hj] at this
  omega
theorem ofNat_lt {i j : Nat} (hi : i < 2 ^ 31) (hj : j < 2 ^ 31) : Int32.ofNat i < Int32.ofNat j ↔ i < j := by
  rw [Int32.lt_iff_toInt_lt, ofNat_toInt hi, ofNat_toInt hj]; omega
theorem ofNat_add1 (i : Nat) : Int32.ofNat i + 1 = Int32.ofNat (i + 1) := by rw [Int32.ofNat_add]; rfl
theorem ofNat_sub1 {i : Nat} (h : 0 < i) : Int32.ofNat i - 1 = Int32.ofNat (i - 1) := by
  obtain ⟨j, rfl⟩ : ∃ j, i = j + 1 := ⟨i - 1, by omega⟩
  rw [← ofNat_add1, Int32.add_sub_cancel]; rfl
theorem ofNat_nonneg {i : Nat} (h : i < 2 ^ 31) : ¬ Int32.ofNat i < 0 := by
  rw [Int32.lt_iff_toInt_lt, ofNat_toInt h]; have e : (0 : Int32).toInt = 0 := rfl; omega
theorem ushr1 {k : Nat} (h : k < 2 ^ 31) : XT.ushr (Int32.ofNat k) 1 = Int32.ofNat (k / 2) := by
  have e1 : ((1 : Int32) &&& 31).toUInt32 = 1 := by decide
  unfold XT.ushr
  rw [e1]
  apply Int32.toBitVec_inj.mp
  apply BitVec.eq_of_toNat_eq
  simp [Int32.toBitVec_ofNat]
  omega
theorem cmpL_eq (x y : Int64) : XT.cmpL x y = 0 ↔ x = y := by
  unfold XT.cmpL
  by_cases h1 : y < x
  · rw [if_pos h1]; constructor
    · intro q; cases q
    · rintro rfl; exact absurd h1 (Int64.lt_irrefl)
  · rw [if_neg h1]
    by_cases h2 : x = y
    · simp [h2]
    · rw [if_neg h2]; constructor
      · intro q; cases q
      · intro q; exact absurd q h2
theorem cmpL_gt (x y : Int64) : 0 < XT.cmpL x y ↔ y < x := by
  unfold XT.cmpL
  by_cases h1 : y < x
  · simp [h1]
  · rw [if_neg h1]
    by_cases h2 : x = y
    · simp [h2]
    · rw [if_neg h2]; simp [h1]
theorem cmpL_lt (x y : Int64) : XT.cmpL x y < 0 ↔ x < y := by
  unfold XT.cmpL
  by_cases h1 : y < x
  · rw [if_pos h1]; constructor
    · intro q; exact absurd q (by decide)
    · intro q; exact absurd q (Int64.lt_asymm h1)
  · rw [if_neg h1]
    by_cases h2 : x = y
    · subst h2; simp [Int64.lt_irrefl]
    · rw [if_neg h2]
      constructor
      · intro _
        rw [Int64.lt_iff_toInt_lt] at h1 ⊢
        have : x.toInt ≠ y.toInt := fun q => h2 (Int64.toInt_inj.mp q)
        omega
      · intro _; decide
def JF (Z : State) (h : Heap) (a : Addr) (v0 v1 v2 v3 v4 v5 : Value) : Prop := Exa Z h a "com/example/nuthatch/nuthatch/store/JournalTally" ∧ Fld Z h a "com/example/nuthatch/nuthatch/store/JournalTally" "created" "[J" v0 ∧ Fld Z h a "com/example/nuthatch/nuthatch/store/JournalTally" "changes" "[I" v1 ∧ Fld Z h a "com/example/nuthatch/nuthatch/store/JournalTally" "creates" "I" v2 ∧ Fld Z h a "com/example/nuthatch/nuthatch/store/JournalTally" "count" "I" v3 ∧ Fld Z h a "com/example/nuthatch/nuthatch/store/JournalTally" "writes" "I" v4 ∧ Fld Z h a "com/example/nuthatch/nuthatch/store/JournalTally" "ordered" "Z" v5
theorem JF.ext {Z : State} {h h' : Heap} {a : Addr} {v0 v1 v2 v3 v4 v5 : Value} (F : JF Z h a v0 v1 v2 v3 v4 v5) (E : Ext h h') : JF Z h' a v0 v1 v2 v3 v4 v5 := ⟨F.1.ext E, F.2.1.ext E, F.2.2.1.ext E, F.2.2.2.1.ext E, F.2.2.2.2.1.ext E, F.2.2.2.2.2.1.ext E, F.2.2.2.2.2.2.ext E⟩
theorem JF.other {Z : State} {h h' : Heap} {a : Addr} {v0 v1 v2 v3 v4 v5 : Value} {b : Addr} {sl : Nat} {v : Value} (F : JF Z h a v0 v1 v2 v3 v4 v5) (W : Wr h h' b sl v) (ne : a ≠ b) : JF Z h' a v0 v1 v2 v3 v4 v5 := ⟨F.1.wr W, F.2.1.other W (Or.inl ne), F.2.2.1.other W (Or.inl ne), F.2.2.2.1.other W (Or.inl ne), F.2.2.2.2.1.other W (Or.inl ne), F.2.2.2.2.2.1.other W (Or.inl ne), F.2.2.2.2.2.2.other W (Or.inl ne)⟩
theorem JF.keep {Z : State} {h h' : Heap} {a : Addr} {v0 v1 v2 v3 v4 v5 : Value} {ws : List Addr} (F : JF Z h a v0 v1 v2 v3 v4 v5) (K : Keep h h' ws) (ne : a ∉ ws) : JF Z h' a v0 v1 v2 v3 v4 v5 := ⟨F.1.keep K, F.2.1.keep K ne, F.2.2.1.keep K ne, F.2.2.2.1.keep K ne, F.2.2.2.2.1.keep K ne, F.2.2.2.2.2.1.keep K ne, F.2.2.2.2.2.2.keep K ne⟩
theorem JF.w0 {Z : State} {h h' : Heap} {a : Addr} {v0 v1 v2 v3 v4 v5 : Value} {a0 : Array Value} {v : Value} (hw : ∀ d ∈ tables_1, d.before a0 Z = true) (F : JF Z h a v0 v1 v2 v3 v4 v5) (W : Wr h h' a (Jvm.RoadKit.slotOf Z "com/example/nuthatch/nuthatch/store/JournalTally" "created" "[J") v) : JF Z h' a v v1 v2 v3 v4 v5 := ⟨F.1.wr W, F.2.1.same W, F.2.2.1.other W (Or.inr (slot_ne (Or.inl (wd16 hw)) (Or.inl (wd14 hw)) (by decide) (t := (.array .int)) (t' := (.array .long)) (by decide) (by decide))), F.2.2.2.1.other W (Or.inr (slot_ne (Or.inl (wd39 hw)) (Or.inl (wd14 hw)) (by decide) (t := .int) (t' := (.array .long)) (by decide) (by decide))), F.2.2.2.2.1.other W (Or.inr (slot_ne (Or.inl (wd44 hw)) (Or.inl (wd14 hw)) (by decide) (t := .int) (t' := (.array .long)) (by decide) (by decide))), F.2.2.2.2.2.1.other W (Or.inr (slot_ne (Or.inl (wd42 hw)) (Or.inl (wd14 hw)) (by decide) (t := .int) (t' := (.array .long)) (by decide) (by decide))), F.2.2.2.2.2.2.other W (Or.inr (slot_ne (Or.inl (wd18 hw)) (Or.inl (wd14 hw)) (by decide) (t := .boolean) (t' := (.array .long)) (by decide) (by decide)))⟩
theorem JF.w1 {Z : State} {h h' : Heap} {a : Addr} {v0 v1 v2 v3 v4 v5 : Value} {a0 : Array Value} {v : Value} (hw : ∀ d ∈ tables_1, d.before a0 Z = true) (F : JF Z h a v0 v1 v2 v3 v4 v5) (W : Wr h h' a (Jvm.RoadKit.slotOf Z "com/example/nuthatch/nuthatch/store/JournalTally" "changes" "[I") v) : JF Z h' a v0 v v2 v3 v4 v5 := ⟨F.1.wr W, F.2.1.other W (Or.inr (slot_ne (Or.inl (wd14 hw)) (Or.inl (wd16 hw)) (by decide) (t := (.array .long)) (t' := (.array .int)) (by decide) (by decide))), F.2.2.1.same W, F.2.2.2.1.other W (Or.inr (slot_ne (Or.inl (wd39 hw)) (Or.inl (wd16 hw)) (by decide) (t := .int) (t' := (.array .int)) (by decide) (by decide))), F.2.2.2.2.1.other W (Or.inr (slot_ne (Or.inl (wd44 hw)) (Or.inl (wd16 hw)) (by decide) (t := .int) (t' := (.array .int)) (by decide) (by decide))), F.2.2.2.2.2.1.other W (Or.inr (slot_ne (Or.inl (wd42 hw)) (Or.inl (wd16 hw)) (by decide) (t := .int) (t' := (.array .int)) (by decide) (by decide))), F.2.2.2.2.2.2.other W (Or.inr (slot_ne (Or.inl (wd18 hw)) (Or.inl (wd16 hw)) (by decide) (t := .boolean) (t' := (.array .int)) (by decide) (by decide)))⟩
theorem JF.w2 {Z : State} {h h' : Heap} {a : Addr} {v0 v1 v2 v3 v4 v5 : Value} {a0 : Array Value} {v : Value} (hw : ∀ d ∈ tables_1, d.before a0 Z = true) (F : JF Z h a v0 v1 v2 v3 v4 v5) (W : Wr h h' a (Jvm.RoadKit.slotOf Z "com/example/nuthatch/nuthatch/store/JournalTally" "creates" "I") v) : JF Z h' a v0 v1 v v3 v4 v5 := ⟨F.1.wr W, F.2.1.other W (Or.inr (slot_ne (Or.inl (wd14 hw)) (Or.inl (wd39 hw)) (by decide) (t := (.array .long)) (t' := .int) (by decide) (by decide))), F.2.2.1.other W (Or.inr (slot_ne (Or.inl (wd16 hw)) (Or.inl (wd39 hw)) (by decide) (t := (.array .int)) (t' := .int) (by decide) (by decide))), F.2.2.2.1.same W, F.2.2.2.2.1.other W (Or.inr (slot_ne (Or.inl (wd44 hw)) (Or.inl (wd39 hw)) (by decide) (t := .int) (t' := .int) (by decide) (by decide))), F.2.2.2.2.2.1.other W (Or.inr (slot_ne (Or.inl (wd42 hw)) (Or.inl (wd39 hw)) (by decide) (t := .int) (t' := .int) (by decide) (by decide))), F.2.2.2.2.2.2.other W (Or.inr (slot_ne (Or.inl (wd18 hw)) (Or.inl (wd39 hw)) (by decide) (t := .boolean) (t' := .int) (by decide) (by decide)))⟩
theorem JF.w3 {Z : State} {h h' : Heap} {a : Addr} {v0 v1 v2 v3 v4 v5 : Value} {a0 : Array Value} {v : Value} (hw : ∀ d ∈ tables_1, d.before a0 Z = true) (F : JF Z h a v0 v1 v2 v3 v4 v5) (W : Wr h h' a (Jvm.RoadKit.slotOf Z "com/example/nuthatch/nuthatch/store/JournalTally" "count" "I") v) : JF Z h' a v0 v1 v2 v v4 v5 := ⟨F.1.wr W, F.2.1.other W (Or.inr (slot_ne (Or.inl (wd14 hw)) (Or.inl (wd44 hw)) (by decide) (t := (.array .long)) (t' := .int) (by decide) (by decide))), F.2.2.1.other W (Or.inr (slot_ne (Or.inl (wd16 hw)) (Or.inl (wd44 hw)) (by decide) (t := (.array .int)) (t' := .int) (by decide) (by decide))), F.2.2.2.1.other W (Or.inr (slot_ne (Or.inl (wd39 hw)) (Or.inl (wd44 hw)) (by decide) (t := .int) (t' := .int) (by decide) (by decide))), F.2.2.2.2.1.same W, F.2.2.2.2.2.1.other W (Or.inr (slot_ne (Or.inl (wd42 hw)) (Or.inl (wd44 hw)) (by decide) (t := .int) (t' := .int) (by decide) (by decide))), F.2.2.2.2.2.2.other W (Or.inr (slot_ne (Or.inl (wd18 hw)) (Or.inl (wd44 hw)) (by decide) (t := .boolean) (t' := .int) (by decide) (by decide)))⟩
theorem JF.w4 {Z : State} {h h' : Heap} {a : Addr} {v0 v1 v2 v3 v4 v5 : Value} {a0 : Array Value} {v : Value} (hw : ∀ d ∈ tables_1, d.before a0 Z = true) (F : JF Z h a v0 v1 v2 v3 v4 v5) (W : Wr h h' a (Jvm.RoadKit.slotOf Z "com/example/nuthatch/nuthatch/store/JournalTally" "writes" "I") v) : JF Z h' a v0 v1 v2 v3 v v5 := ⟨F.1.wr W, F.2.1.other W (Or.inr (slot_ne (Or.inl (wd14 hw)) (Or.inl (wd42 hw)) (by decide) (t := (.array .long)) (t' := .int) (by decide) (by decide))), F.2.2.1.other W (Or.inr (slot_ne (Or.inl (wd16 hw)) (Or.inl (wd42 hw)) (by decide) (t := (.array .int)) (t' := .int) (by decide) (by decide))), F.2.2.2.1.other W (Or.inr (slot_ne (Or.inl (wd39 hw)) (Or.inl (wd42 hw)) (by decide) (t := .int) (t' := .int) (by decide) (by decide))), F.2.2.2.2.1.other W (Or.inr (slot_ne (Or.inl (wd44 hw)) (Or.inl (wd42 hw)) (by decide) (t := .int) (t' := .int) (by decide) (by decide))), F.2.2.2.2.2.1.same W, F.2.2.2.2.2.2.other W (Or.inr (slot_ne (Or.inl (wd18 hw)) (Or.inl (wd42 hw)) (by decide) (t := .boolean) (t' := .int) (by decide) (by decide)))⟩
theorem JF.w5 {Z : State} {h h' : Heap} {a : Addr} {v0 v1 v2 v3 v4 v5 : Value} {a0 : Array Value} {v : Value} (hw : ∀ d ∈ tables_1, d.before a0 Z = true) (F : JF Z h a v0 v1 v2 v3 v4 v5) (W : Wr h h' a (Jvm.RoadKit.slotOf Z "com/example/nuthatch/nuthatch/store/JournalTally" "ordered" "Z") v) : JF Z h' a v0 v1 v2 v3 v4 v := ⟨F.1.wr W, F.2.1.other W (Or.inr (slot_ne (Or.inl (wd14 hw)) (Or.inl (wd18 hw)) (by decide) (t := (.array .long)) (t' := .boolean) (by decide) (by decide))), F.2.2.1.other W (Or.inr (slot_ne (Or.inl (wd16 hw)) (Or.inl (wd18 hw)) (by decide) (t := (.array .int)) (t' := .boolean) (by decide) (by decide))), F.2.2.2.1.other W (Or.inr (slot_ne (Or.inl (wd39 hw)) (Or.inl (wd18 hw)) (by decide) (t := .int) (t' := .boolean) (by decide) (by decide))), F.2.2.2.2.1.other W (Or.inr (slot_ne (Or.inl (wd44 hw)) (Or.inl (wd18 hw)) (by decide) (t := .int) (t' := .boolean) (by decide) (by decide))), F.2.2.2.2.2.1.other W (Or.inr (slot_ne (Or.inl (wd42 hw)) (Or.inl (wd18 hw)) (by decide) (t := .int) (t' := .boolean) (by decide) (by decide))), F.2.2.2.2.2.2.same W⟩
/-- what is said of the start -/
def Gl (Z : State) (a0 : Array Value) (kc ku kd ka : Addr) : Prop :=
  (∀ d ∈ tables_1, d.before a0 Z = true) ∧ Sta Z Z.heap "com/example/nuthatch/nuthatch/store/ChangeRecord$Kind" "CREATE" "Lcom/example/nuthatch/nuthatch/store/ChangeRecord$Kind;" (.ref kc) ∧ Sta Z Z.heap "com/example/nuthatch/nuthatch/store/ChangeRecord$Kind" "UPDATE" "Lcom/example/nuthatch/nuthatch/store/ChangeRecord$Kind;" (.ref ku) ∧ Sta Z Z.heap "com/example/nuthatch/nuthatch/store/ChangeRecord$Kind" "DELETE" "Lcom/example/nuthatch/nuthatch/store/ChangeRecord$Kind;" (.ref kd) ∧ Sta Z Z.heap "com/example/nuthatch/nuthatch/store/ChangeRecord$Kind" "ASSIGN" "Lcom/example/nuthatch/nuthatch/store/ChangeRecord$Kind;" (.ref ka) ∧ ¬ ku = kc ∧ ¬ kd = kc ∧ ¬ ka = kc ∧ ¬ ku = kd ∧ ¬ ka = kd
/-- the tally at a: created holds cr, changes ch (64 places each) -/
def TY (Z : State) (h : Heap) (n0 : Nat) (a cA xA : Addr) (cr : Nat → Int64) (ch : Nat → Int32) (n : Nat) (cnt wr : Int32) (o : Bool) : Prop :=
  JF Z h a (.ref cA) (.ref xA) (.int (Int32.ofNat n)) (.int cnt) (.int wr) (.int (if o then 1 else 0)) ∧ Av Z h cA .long 64 (fun j => .long (cr j)) ∧ Av Z h xA .int 64 (fun j => .int (ch j)) ∧ n0 ≤ a ∧ n0 ≤ cA ∧ n0 ≤ xA ∧ a ≠ cA ∧ a ≠ xA ∧ cA ≠ xA
theorem TY.ext {Z : State} {h h' : Heap} {n0 : Nat} {a cA xA : Addr} {cr : Nat → Int64} {ch : Nat → Int32} {n : Nat} {cnt wr : Int32} {o : Bool} (T : TY Z h n0 a cA xA cr ch n cnt wr o) (E : Ext h h') : TY Z h' n0 a cA xA cr ch n cnt wr o := ⟨T.1.ext E, T.2.1.ext E, T.2.2.1.ext E, T.2.2.2⟩
theorem TY.keep {Z : State} {h h' : Heap} {n0 : Nat} {a cA xA : Addr} {cr : Nat → Int64} {ch : Nat → Int32} {n : Nat} {cnt wr : Int32} {o : Bool} {ws : List Addr} (T : TY Z h n0 a cA xA cr ch n cnt wr o) (K : Keep h h' ws) (q1 : a ∉ ws) (q2 : cA ∉ ws) (q3 : xA ∉ ws) : TY Z h' n0 a cA xA cr ch n cnt wr o := ⟨T.1.keep K q1, T.2.1.keep K q2, T.2.2.1.keep K q3, T.2.2.2⟩
def upd {α : Type} (f : Nat → α) (i : Nat) (v : α) : Nat → α := fun j => if j = i then v else f j
theorem Av.updJ {Z : State} {h : Heap} {a : Addr} {N i : Nat} {f : Nat → Int64} {v : Int64} (A : Av Z h a .long N (fun j => if j = i then (.long v) else .long (f j))) : Av Z h a .long N (fun j => .long (upd f i v j)) := A.congr fun j _ => by by_cases e : j = i <;> simp [upd, e]
theorem Av.updI {Z : State} {h : Heap} {a : Addr} {N i : Nat} {f : Nat → Int32} {v : Int32} (A : Av Z h a .int N (fun j => if j = i then (.int v) else .int (f j))) : Av Z h a .int N (fun j => .int (upd f i v j)) := A.congr fun j _ => by by_cases e : j = i <;> simp [upd, e]
set_option maxRecDepth 65536 in
set_option maxHeartbeats 40000000 in
theorem c_range (l : Launch) (Z : State) (a0 : Array Value) (kc ku kd ka : Addr) (G : Gl Z a0 kc ku kd ka) (N n : Nat) (hN : N < 2 ^ 31) (hnN : n ≤ N) (hn31 : n < 2 ^ 31) (h0 : Heap) (n0 : Nat) :
    Ctr l Z (⟨"java/util/Arrays", "rangeCheck", "(III)V"⟩ : MethodName) jdk_65_method_30_code 3 none rm0 #[(.int (Int32.ofNat N)), (.int 0), (.int (Int32.ofNat n))] h0 n0 (fun v h => v = none ∧ h0 = h) := by
  have hw := G.1
  refine Ctr.of (n1 := n0) #[.val (.int (Int32.ofNat N)), .val (.int 0), .val (.int (Int32.ofNat n))] (plainFor_of_name pn0) (fun m => by first | (simp [entryFrame, mkF, argsToLocals, Value.category, maxLocals]; done) | rfl) ?_
  intro p e s m below meth c C
  refine g_iloadN C d8_0 (v := 0) rfl (q := 1) rfl ?_
  refine g_iloadN C d8_1 (v := (Int32.ofNat n)) rfl (q := 2) rfl ?_
  refine g_icmp_le C d8_2 (q' := 46) (q := 5) (by decide) (by decide) rfl (fun hy => ?_) (fun hn => absurd hn (ofNat_nonneg hn31))
  refine g_iloadN C d8_46 (v := 0) rfl (q := 47) rfl ?_
  refine g_if_ge C d8_47 (q' := 59) (q := 50) (by decide) (by decide) rfl (fun hy => ?_) (fun hn => absurd hn (by decide))
  refine g_iloadN C d8_59 (v := (Int32.ofNat n)) rfl (q := 60) rfl ?_
  refine g_iloadN C d8_60 (v := (Int32.ofNat N)) rfl (q := 61) rfl ?_
  refine g_icmp_le C d8_61 (q' := 73) (q := 64) (by decide) (by decide) rfl (fun hy => ?_) (fun hn => absurd ((ofNat_lt hN hn31).mp hn) (by omega))
  refine g_return C d8_73 (Nat.le_refl _) (by decide) (by decide) ⟨rfl, rfl⟩
/-- what the three late locals may be at the loop's head -/
def Lt3 (s7 s8 s9 : Slot) : Prop := (s7 = .unset ∧ s8 = .unset ∧ s9 = .unset) ∨ ∃ (x : Int32) (y : Int64), s7 = .val (.int x) ∧ s8 = .val (.long y) ∧ s9 = .second
set_option maxRecDepth 65536 in
set_option maxHeartbeats 40000000 in
theorem loopB {p : Program} {e : Env} {s : State} {m : MethodId} {args : Array Value} {below : List Frame} {meth : Method} {c : Code} (l : Launch) (Z : State) (a0 : Array Value) (kc ku kd ka : Addr) (G : Gl Z a0 kc ku kd ka) (b : Addr) (N n : Nat) (cr : Nat → Int64) (key : Int64) (h0 : Heap) (n0 : Nat) (hN : N < 2 ^ 30) (hnN : n ≤ N) (A0 : Av Z h0 b .long N (fun j => .long (cr j))) (hsort : ∀ i j, i < j → j < n → cr i < cr j) (C : Cx p s m meth c Z "java/util/Arrays" "binarySearch0" jdk_65_method_56_code 10 (some .int)) (d lo hi : Nat) (s7 s8 s9 : Slot) (hd : d = hi - lo) (hl : lo ≤ n) (hh : hi ≤ n) (hlo : ∀ i, i < lo → cr i < key) (hhi : ∀ i, hi ≤ i → i < n → key < cr i) (hs : Lt3 s7 s8 s9) :
    Go p l e rm0 s m args below meth c (FinN s below rm0 n0 (fun v h => h0 = h ∧ ((∃ i, i < n ∧ cr i = key ∧ v = some (.int (Int32.ofNat i))) ∨ (∃ r, v = some (.int r) ∧ r < 0 ∧ ∀ i, i < n → ¬ cr i = key)))) n0 h0 0 0 8 #[.val (.ref b), .val (.int 0), .val (.int (Int32.ofNat n)), .val (.long key), .second, .val (.int (Int32.ofNat lo)), .val (.int (Int32.ofNat hi - 1)), s7, s8, s9] [] := by
  have hw := G.1
  induction d using Nat.strongRecOn generalizing lo hi s7 s8 s9 with
  | ind d ih =>
    refine g_iload C d9_8 (v := (Int32.ofNat lo)) rfl (q := 10) rfl ?_
    refine g_iload C d9_10 (v := (Int32.ofNat hi - 1)) rfl (q := 12) rfl ?_
    refine g_icmp_gt C d9_12 (q' := 68) (q := 15) (by decide) (by decide) rfl (fun hgt => ?_) (fun hle => ?_)
    ·
      refine g_iload C d9_68 (v := (Int32.ofNat lo)) rfl (q := 70) rfl ?_
      refine g_iconst C d9_70 (z := (1 : Int32)) rfl (q := 71) rfl ?_
      refine g_iadd C d9_71 (q := 72) rfl ?_
      refine g_ineg C d9_72 (q := 73) rfl ?_
      have hlh : hi ≤ lo := by
        rcases Nat.eq_zero_or_pos hi with e | e
        · omega
        · rw [ofNat_sub1 e] at hgt
          have := (ofNat_lt (by omega) (by omega)).mp hgt
          omega
      refine g_ireturn C d9_73 (Nat.le_refl _) (Nat.zero_le _) (Nat.zero_le _) ⟨rfl, Or.inr ⟨_, rfl, ?_, fun i hi' => ?_⟩⟩
      · rw [ofNat_add1, Int32.lt_iff_toInt_lt]
        have e0 : (0 : Int32).toInt = 0 := rfl
        have e1 : (Int32.ofNat (lo + 1)).toInt = lo + 1 := by rw [ofNat_toInt (by omega)]; omega
        rw [Int32.toInt_neg, e1, e0]
        have : (-((lo : Int) + 1)).bmod (2 ^ 32) = -((lo : Int) + 1) := by rw [Int.bmod_def]; omega
        omega
      · rcases Nat.lt_or_ge i lo with q | q
        · intro e; have := hlo i q; rw [e] at this; exact absurd this Int64.lt_irrefl
        · intro e; have := hhi i (by omega) hi'; rw [e] at this; exact absurd this Int64.lt_irrefl
    ·
      have hhp : 0 < hi := by
        rcases Nat.eq_zero_or_pos hi with e | e
        · exfalso
          apply hle
          subst e
          rw [Int32.lt_iff_toInt_lt, ofNat_toInt (by omega)]
          have e1 : (Int32.ofNat 0 - 1).toInt = -1 := by decide
          omega
        · exact e
      have hlt : lo < hi := by
        rw [ofNat_sub1 hhp] at hle
        have := Nat.not_lt.mp (fun q => hle ((ofNat_lt (by omega) (by omega)).mpr q))
        omega
      have hm : XT.ushr (Int32.ofNat lo + (Int32.ofNat hi - 1)) 1 = Int32.ofNat ((lo + (hi - 1)) / 2) := by
        rw [ofNat_sub1 hhp, ← Int32.ofNat_add]; exact ushr1 (by omega)
      obtain ⟨mid, hmid⟩ : ∃ mid, mid = (lo + (hi - 1)) / 2 := ⟨_, rfl⟩
      rw [← hmid] at hm
      refine g_iload C d9_15 (v := (Int32.ofNat lo)) rfl (q := 17) rfl ?_
      refine g_iload C d9_17 (v := (Int32.ofNat hi - 1)) rfl (q := 19) rfl ?_
      refine g_iadd C d9_19 (q := 20) rfl ?_
      refine g_iconst C d9_20 (z := (1 : Int32)) rfl (q := 21) rfl ?_
      refine g_iushr C d9_21 (q := 22) rfl ?_
      rw [hm]
      have st7 : ∀ v, storeLocals #[.val (.ref b), .val (.int 0), .val (.int (Int32.ofNat n)), .val (.long key), .second, .val (.int (Int32.ofNat lo)), .val (.int (Int32.ofNat hi - 1)), s7, s8, s9] 7 (.int v) = some #[.val (.ref b), .val (.int 0), .val (.int (Int32.ofNat n)), .val (.long key), .second, .val (.int (Int32.ofNat lo)), .val (.int (Int32.ofNat hi - 1)), .val (.int v), s8, s9] := fun v => by rcases hs with ⟨rfl, rfl, rfl⟩ | ⟨x, y, rfl, rfl, rfl⟩ <;> rfl
      have st8 : ∀ v u, storeLocals #[.val (.ref b), .val (.int 0), .val (.int (Int32.ofNat n)), .val (.long key), .second, .val (.int (Int32.ofNat lo)), .val (.int (Int32.ofNat hi - 1)), .val (.int u), s8, s9] 8 (.long v) = some #[.val (.ref b), .val (.int 0), .val (.int (Int32.ofNat n)), .val (.long key), .second, .val (.int (Int32.ofNat lo)), .val (.int (Int32.ofNat hi - 1)), .val (.int u), .val (.long v), .second] := fun v u => by rcases hs with ⟨rfl, rfl, rfl⟩ | ⟨x, y, rfl, rfl, rfl⟩ <;> rfl
      refine g_istore C d9_22 (L' := #[.val (.ref b), .val (.int 0), .val (.int (Int32.ofNat n)), .val (.long key), .second, .val (.int (Int32.ofNat lo)), .val (.int (Int32.ofNat hi - 1)), .val (.int (Int32.ofNat mid)), s8, s9]) (st7 _) (q := 24) rfl ?_
      refine g_aloadN C d9_24 (v := (.ref b)) rfl rfl (q := 25) rfl ?_
      refine g_iload C d9_25 (v := (Int32.ofNat mid)) rfl (q := 27) rfl ?_
      refine g_laload C d9_27 (i := mid) A0 (by omega) rfl rfl (q := 28) rfl ?_
      refine g_lstore C d9_28 (L' := #[.val (.ref b), .val (.int 0), .val (.int (Int32.ofNat n)), .val (.long key), .second, .val (.int (Int32.ofNat lo)), .val (.int (Int32.ofNat hi - 1)), .val (.int (Int32.ofNat mid)), .val (.long (cr mid)), .second]) (st8 _ _) (q := 30) rfl ?_
      refine g_lload C d9_30 (v := (cr mid)) rfl (q := 32) rfl ?_
      refine g_lloadN C d9_32 (v := key) rfl (q := 33) rfl ?_
      refine g_lcmp C d9_33 (q := 34) rfl ?_
      refine g_if_ge C d9_34 (q' := 46) (q := 37) (by decide) (by decide) rfl (fun hge => ?_) (fun hltk => ?_)
      ·
        refine g_lload C d9_46 (v := (cr mid)) rfl (q := 48) rfl ?_
        refine g_lloadN C d9_48 (v := key) rfl (q := 49) rfl ?_
        refine g_lcmp C d9_49 (q := 50) rfl ?_
        refine g_if_le C d9_50 (q' := 62) (q := 53) (by decide) (by decide) rfl (fun hngt => ?_) (fun hgtk => ?_)
        ·
          refine g_iload C d9_62 (v := (Int32.ofNat mid)) rfl (q := 64) rfl ?_
          refine g_ireturn C d9_64 (Nat.le_refl _) (Nat.zero_le _) (Nat.zero_le _) ⟨rfl, Or.inl ⟨mid, by omega, ?_, rfl⟩⟩
          have q1 : ¬ cr mid < key := fun q => hge ((cmpL_lt _ _).mpr q)
          have q2 : ¬ key < cr mid := fun q => hngt ((cmpL_gt _ _).mpr q)
          rw [Int64.lt_iff_toInt_lt] at q1 q2
          exact Int64.toInt_inj.mp (by omega)
        ·
          refine g_iload C d9_53 (v := (Int32.ofNat mid)) rfl (q := 55) rfl ?_
          refine g_iconst C d9_55 (z := (1 : Int32)) rfl (q := 56) rfl ?_
          refine g_isub C d9_56 (q := 57) rfl ?_
          refine g_istore C d9_57 (L' := #[.val (.ref b), .val (.int 0), .val (.int (Int32.ofNat n)), .val (.long key), .second, .val (.int (Int32.ofNat lo)), .val (.int ((Int32.ofNat mid) - (1 : Int32))), .val (.int (Int32.ofNat mid)), .val (.long (cr mid)), .second]) rfl (q := 59) rfl ?_
          refine g_goto C d9_59 (q := 65) (by decide) (by decide) ?_
          refine g_goto C d9_65 (q := 8) (by decide) (by decide) ?_
          refine ih (mid - lo) (by omega) lo mid _ _ _ rfl (by omega) (by omega) hlo (fun i h1 h2 => ?_) (Or.inr ⟨_, _, rfl, rfl, rfl⟩)
          have q1 : key < cr mid := (cmpL_gt _ _).mp hgtk
          rcases Nat.lt_or_eq_of_le h1 with q | q
          · exact Int64.lt_trans q1 (hsort mid i q h2)
          · rw [← q]; exact q1
      ·
        refine g_iload C d9_37 (v := (Int32.ofNat mid)) rfl (q := 39) rfl ?_
        refine g_iconst C d9_39 (z := (1 : Int32)) rfl (q := 40) rfl ?_
        refine g_iadd C d9_40 (q := 41) rfl ?_
        refine g_istore C d9_41 (L' := #[.val (.ref b), .val (.int 0), .val (.int (Int32.ofNat n)), .val (.long key), .second, .val (.int ((Int32.ofNat mid) + (1 : Int32))), .val (.int (Int32.ofNat hi - 1)), .val (.int (Int32.ofNat mid)), .val (.long (cr mid)), .second]) rfl (q := 43) rfl ?_
        refine g_goto C d9_43 (q := 65) (by decide) (by decide) ?_
        refine g_goto C d9_65 (q := 8) (by decide) (by decide) ?_
        rw [ofNat_add1]
        refine ih (hi - (mid + 1)) (by omega) (mid + 1) hi _ _ _ rfl (by omega) (by omega) (fun i hi' => ?_) hhi (Or.inr ⟨_, _, rfl, rfl, rfl⟩)
        have q1 : cr mid < key := (cmpL_lt _ _).mp hltk
        rcases Nat.lt_or_eq_of_le (Nat.le_of_lt_succ hi') with q | q
        · exact Int64.lt_trans (hsort i mid q (by omega)) q1
        · rw [q]; exact q1
set_option maxRecDepth 65536 in
set_option maxHeartbeats 40000000 in
theorem c_bs0 (l : Launch) (Z : State) (a0 : Array Value) (kc ku kd ka : Addr) (G : Gl Z a0 kc ku kd ka) (b : Addr) (N n : Nat) (cr : Nat → Int64) (key : Int64) (h0 : Heap) (n0 : Nat) (hN : N < 2 ^ 30) (hnN : n ≤ N) (A0 : Av Z h0 b .long N (fun j => .long (cr j))) (hsort : ∀ i j, i < j → j < n → cr i < cr j) :
    Ctr l Z (⟨"java/util/Arrays", "binarySearch0", "([JIIJ)I"⟩ : MethodName) jdk_65_method_56_code 10 (some .int) rm0 #[(.ref b), (.int 0), (.int (Int32.ofNat n)), (.long key)] h0 n0 (fun v h => h0 = h ∧ ((∃ i, i < n ∧ cr i = key ∧ v = some (.int (Int32.ofNat i))) ∨ (∃ r, v = some (.int r) ∧ r < 0 ∧ ∀ i, i < n → ¬ cr i = key))) := by
  have hw := G.1
  refine Ctr.of (n1 := n0) #[.val (.ref b), .val (.int 0), .val (.int (Int32.ofNat n)), .val (.long key), .second, .unset, .unset, .unset, .unset, .unset] (plainFor_of_name pn0) (fun m => by first | (simp [entryFrame, mkF, argsToLocals, Value.category, maxLocals]; done) | rfl) ?_
  intro p e s m below meth c C
  refine g_iloadN C d9_0 (v := 0) rfl (q := 1) rfl ?_
  refine g_istore C d9_1 (L' := #[.val (.ref b), .val (.int 0), .val (.int (Int32.ofNat n)), .val (.long key), .second, .val (.int 0), .unset, .unset, .unset, .unset]) rfl (q := 3) rfl ?_
  refine g_iloadN C d9_3 (v := (Int32.ofNat n)) rfl (q := 4) rfl ?_
  refine g_iconst C d9_4 (z := (1 : Int32)) rfl (q := 5) rfl ?_
  refine g_isub C d9_5 (q := 6) rfl ?_
  refine g_istore C d9_6 (L' := #[.val (.ref b), .val (.int 0), .val (.int (Int32.ofNat n)), .val (.long key), .second, .val (.int 0), .val (.int ((Int32.ofNat n) - (1 : Int32))), .unset, .unset, .unset]) rfl (q := 8) rfl ?_
  exact loopB l Z a0 kc ku kd ka G b N n cr key h0 n0 hN hnN A0 hsort C n 0 n _ _ _ (by omega) (by omega) (by omega) (fun i hi => by omega) (fun i h1 h2 => by omega) (Or.inl ⟨rfl, rfl, rfl⟩)
set_option maxRecDepth 65536 in
set_option maxHeartbeats 40000000 in
theorem c_bs (l : Launch) (Z : State) (a0 : Array Value) (kc ku kd ka : Addr) (G : Gl Z a0 kc ku kd ka) (b : Addr) (N n : Nat) (cr : Nat → Int64) (key : Int64) (h0 : Heap) (n0 : Nat) (hN : N < 2 ^ 30) (hnN : n ≤ N) (A0 : Av Z h0 b .long N (fun j => .long (cr j))) (hsort : ∀ i j, i < j → j < n → cr i < cr j) :
    Ctr l Z (⟨"java/util/Arrays", "binarySearch", "([JIIJ)I"⟩ : MethodName) jdk_65_method_55_code 5 (some .int) rmB #[(.ref b), (.int 0), (.int (Int32.ofNat n)), (.long key)] h0 n0 (fun v h => h0 = h ∧ ((∃ i, i < n ∧ cr i = key ∧ v = some (.int (Int32.ofNat i))) ∨ (∃ r, v = some (.int r) ∧ r < 0 ∧ ∀ i, i < n → ¬ cr i = key))) := by
  have hw := G.1
  refine Ctr.of (n1 := n0) #[.val (.ref b), .val (.int 0), .val (.int (Int32.ofNat n)), .val (.long key), .second] (plainFor_of_name pn0) (fun m => by first | (simp [entryFrame, mkF, argsToLocals, Value.category, maxLocals]; done) | rfl) ?_
  intro p e s m below meth c C
  refine g_aloadN C d7_0 (v := (.ref b)) rfl rfl (q := 1) rfl ?_
  refine g_alen C d7_1 A0 (z := (Int32.ofNat N)) rfl (q := 2) rfl ?_
  refine g_iloadN C d7_2 (v := 0) rfl (q := 3) rfl ?_
  refine g_iloadN C d7_3 (v := (Int32.ofNat n)) rfl (q := 4) rfl ?_
  refine g_callS C (W := 0) (argsL := [(.int (Int32.ofNat N)), (.int 0), (.int (Int32.ofNat n))]) (rest := []) d7_4 (wd49 hw) (wd50 hw) (wd47 hw) (wd51 hw) (by decide) (Ctr.bk (c_range l Z a0 kc ku kd ka G N n (by omega) hnN (by omega) h0 n0) C (wd51 hw) (wd47 hw) (by decide) (by decide)) (by decide) (by decide) rfl (lenOf pd0 rfl) rfl rfl (q := 7) rfl (fun v1 h1 hQ1 => ?_)
  obtain ⟨rfl, rfl⟩ := hQ1
  refine ⟨[], rfl, ?_⟩
  refine g_aloadN C d7_7 (v := (.ref b)) rfl rfl (q := 8) rfl ?_
  refine g_iloadN C d7_8 (v := 0) rfl (q := 9) rfl ?_
  refine g_iloadN C d7_9 (v := (Int32.ofNat n)) rfl (q := 10) rfl ?_
  refine g_lloadN C d7_10 (v := key) rfl (q := 11) rfl ?_
  refine g_callS C (W := 0) (argsL := [(.ref b), (.int 0), (.int (Int32.ofNat n)), (.long key)]) (rest := []) d7_11 (wd52 hw) (wd53 hw) (wd47 hw) (wd54 hw) (by decide) (Ctr.bk (c_bs0 l Z a0 kc ku kd ka G b N n cr key h0 n0 hN hnN A0 hsort) C (wd54 hw) (wd47 hw) (by decide) (by decide)) (by decide) (by decide) rfl (lenOf pd1 rfl) rfl rfl (q := 14) rfl (fun v2 h2 hQ2 => ?_)
  obtain ⟨rfl, hQ⟩ := hQ2
  rcases hQ with ⟨i, h1, h2, rfl⟩ | ⟨r, rfl, h1, h2⟩
  ·
    refine ⟨[(.int (Int32.ofNat i))], rfl, ?_⟩
    refine g_ireturn C d7_14 (Nat.le_refl _) (by decide) (by decide) ⟨rfl, Or.inl ⟨i, h1, h2, rfl⟩⟩
  ·
    refine ⟨[(.int r)], rfl, ?_⟩
    refine g_ireturn C d7_14 (Nat.le_refl _) (by decide) (by decide) ⟨rfl, Or.inr ⟨r, rfl, h1, h2⟩⟩
theorem ofNat_subn {i j : Nat} (h : j ≤ i) : Int32.ofNat i - Int32.ofNat j = Int32.ofNat (i - j) := by
  obtain ⟨d, rfl⟩ : ∃ d, i = d + j := ⟨i - j, by omega⟩
  rw [Int32.ofNat_add, Int32.add_sub_cancel]; simp
theorem back_idx {n : Nat} {last id : Int64} (hn : n < 2 ^ 31) (h1 : ¬ last < id) (hov : last.toInt - id.toInt < 2 ^ 63) (h2 : last - id < (Int32.ofNat n).toInt64) : ∃ b, b < n ∧ (last - id).toInt32 = Int32.ofNat b := by
  rw [Int64.lt_iff_toInt_lt] at h1 h2
  have e1 : (last - id).toInt = last.toInt - id.toInt := by
    rw [Int64.toInt_sub, Int.bmod_def]; omega
  have e2 : (Int32.ofNat n).toInt64.toInt = n := by rw [Int32.toInt_toInt64, ofNat_toInt hn]
  rw [e1, e2] at h2
  refine ⟨(last.toInt - id.toInt).toNat, by omega, ?_⟩
  apply Int32.toInt_inj.mp
  rw [ofNat_toInt (by omega), Int64.toInt_toInt32, e1, Int.bmod_def]
  omega
theorem bool_and (o b : Bool) : ((if o then (1 : Int32) else 0) &&& (if b then (1 : Int32) else 0)) = if (o && b) then 1 else 0 := by cases o <;> cases b <;> rfl
theorem bool_nar (o : Bool) : narrow .boolean (.int (if o then 1 else 0)) = .int (if o then 1 else 0) := by cases o <;> rfl
theorem bool_fit (o : Bool) : fits .boolean (.int (if o then 1 else 0)) = true := by cases o <;> rfl
theorem bool_z (o : Bool) : (if o then (1 : Int32) else 0) = 0 ↔ o = false := by cases o <;> simp
/-- what creation answers -/
def YR (o : Bool) (cr : Nat → Int64) (n : Nat) (id : Int64) (r : Int32) : Prop := (o = true ∧ ∃ i, i < n ∧ cr i = id ∧ r = Int32.ofNat i) ∨ (r < 0 ∧ (o = false ∨ ∀ i, i < n → ¬ cr i = id))
/-- what add makes of the tally -/
def MA (kc kd kv : Addr) (id : Int64) (cr : Nat → Int64) (ch : Nat → Int32) (n : Nat) (wr : Int32) (o : Bool) (cr' : Nat → Int64) (ch' : Nat → Int32) (n' : Nat) (wr' : Int32) (o' : Bool) : Prop :=
  (kv = kc ∧ cr' = upd cr n id ∧ ch' = upd ch n 1 ∧ n' = n + 1 ∧ wr' = wr + 1 ∧ o' = (o && (n == 0 || decide (cr (n - 1) < id)))) ∨
  (¬ kv = kc ∧ cr' = cr ∧ n' = n ∧ o' = o ∧
    ((kv = kd ∧ o = true ∧ ∃ i, i < n ∧ cr i = id ∧ 0 < ch i ∧ ch' = upd ch i 0 ∧ wr' = wr - ch i) ∨
     (¬ kv = kd ∧ o = true ∧ ∃ i, i < n ∧ cr i = id ∧ 0 < ch i ∧ ch' = upd ch i (ch i + 1) ∧ wr' = wr + 1) ∨
     ((o = false ∨ (∀ i, i < n → ¬ cr i = id) ∨ ∃ i, i < n ∧ cr i = id ∧ ¬ 0 < ch i) ∧ ch' = ch ∧ wr' = wr + 1)))
set_option maxRecDepth 65536 in
set_option maxHeartbeats 40000000 in
theorem c_tinit (l : Launch) (Z : State) (a0 : Array Value) (kc ku kd ka : Addr) (G : Gl Z a0 kc ku kd ka) (a : Addr) (o1 o2 : Value) (h0 : Heap) (n0 : Nat) (Z0 : n0 ≤ h0.size) (ga : n0 ≤ a) (lta : a < h0.size) (F : JF Z h0 a o1 o2 (.int 0) (.int 0) (.int 0) (.int 0)) :
    Ctr l Z (⟨"com/example/nuthatch/nuthatch/store/JournalTally", "<init>", "()V"⟩ : MethodName) prog_42_method_1_code 1 none rmC #[(.ref a)] h0 n0 (fun v h => v = none ∧ Keep h0 h [a] ∧ ∃ cA xA, h0.size ≤ cA ∧ h0.size ≤ xA ∧ TY Z h n0 a cA xA (fun _ => 0) (fun _ => 0) 0 0 0 true) := by
  have hw := G.1
  refine Ctr.of (n1 := n0) #[.val (.ref a)] (plainFor_of_name pn1) (fun m => by first | (simp [entryFrame, mkF, argsToLocals, Value.category, maxLocals]; done) | rfl) ?_
  intro p e s m below meth c C
  refine g_aloadN C d1_0 (v := (.ref a)) rfl rfl (q := 1) rfl ?_
  refine g_initO C d1_1 (wd10 hw) (wd11 hw) (wd12 hw) rfl (by decide) (W := 0) rfl (by decide) (q := 4) rfl ?_
  refine g_aloadN C d1_4 (v := (.ref a)) rfl rfl (q := 5) rfl ?_
  refine g_bipush C d1_5 (z := (64 : Int32)) rfl (q := 7) rfl ?_
  refine g_newarray C d1_7 (wd1 hw) (by decide) (cap := 64) (by decide) (by decide) (by decide) (by decide) (q := 9) rfl (fun b1 h1 k1 q1 E1 A1 => ?_)
  have B1 : Av Z h1 b1 .long 64 (fun j => .long ((fun _ => 0) j)) := Av.new A1 (by decide)
  have lt1 := B1.lt
  have F := F.ext E1
  have g1 : n0 ≤ b1 := by rw [q1]; exact Z0
  have d1 : a ≠ b1 := by rw [q1]; exact Nat.ne_of_lt lta
  refine g_putf C d1_9 (host := "") (Or.inl (wd13 hw)) Via.refl F.2.1 F.1 (Or.inl (wd14 hw)) (wd5 hw) (ty := (.array .long)) (by decide) rfl rfl ga (q := 12) rfl (fun h2 W2 => ?_)
  have F := F.w0 hw W2
  have B1 := B1.other W2 (Ne.symm d1)
  refine g_aloadN C d1_12 (v := (.ref a)) rfl rfl (q := 13) rfl ?_
  refine g_bipush C d1_13 (z := (64 : Int32)) rfl (q := 15) rfl ?_
  refine g_newarray C d1_15 (wd3 hw) (by decide) (cap := 64) (by decide) (by decide) (by decide) (by decide) (q := 17) rfl (fun b2 h3 k3 q3 E3 A3 => ?_)
  have B2 : Av Z h3 b2 .int 64 (fun j => .int ((fun _ => 0) j)) := Av.new A3 (by decide)
  have F := F.ext E3
  have B1 := B1.ext E3
  have g2 : n0 ≤ b2 := by rw [q3, W2.size]; exact Nat.le_trans Z0 E1.1
  have d2 : a ≠ b2 := by rw [q3, W2.size]; exact Nat.ne_of_lt (Nat.lt_of_lt_of_le lta E1.1)
  have d3 : b1 ≠ b2 := by rw [q3, W2.size]; exact Nat.ne_of_lt lt1
  refine g_putf C d1_17 (host := "") (Or.inl (wd15 hw)) Via.refl F.2.2.1 F.1 (Or.inl (wd16 hw)) (wd5 hw) (ty := (.array .int)) (by decide) rfl rfl ga (q := 20) rfl (fun h4 W4 => ?_)
  have F := F.w1 hw W4
  have B1 := B1.other W4 (Ne.symm d1)
  have B2 := B2.other W4 (Ne.symm d2)
  refine g_aloadN C d1_20 (v := (.ref a)) rfl rfl (q := 21) rfl ?_
  refine g_iconst C d1_21 (z := (1 : Int32)) rfl (q := 22) rfl ?_
  refine g_putf C d1_22 (host := "") (Or.inl (wd17 hw)) Via.refl F.2.2.2.2.2.2 F.1 (Or.inl (wd18 hw)) (wd5 hw) (ty := .boolean) (by decide) rfl rfl ga (q := 25) rfl (fun h5 W5 => ?_)
  have F := F.w5 hw W5
  have B1 := B1.other W5 (Ne.symm d1)
  have B2 := B2.other W5 (Ne.symm d2)
  have K5 : Keep h0 h5 [a] := ((((Ext.kp E1 [a]).wr W2 (Or.inl (by simp))).ext E3).wr W4 (Or.inl (by simp))).wr W5 (Or.inl (by simp))
  refine g_return C d1_25 (Nat.le_refl _) (by decide) (by decide) ⟨rfl, K5, b1, b2, by rw [q1]; exact Nat.le_refl _, by rw [q3, W2.size]; exact E1.1, F, B1, B2, ga, g1, g2, d1, d2, d3⟩
set_option maxRecDepth 65536 in
set_option maxHeartbeats 40000000 in
theorem c_writes (l : Launch) (Z : State) (a0 : Array Value) (kc ku kd ka : Addr) (G : Gl Z a0 kc ku kd ka) (a cA xA : Addr) (cr : Nat → Int64) (ch : Nat → Int32) (n : Nat) (cnt wr : Int32) (o : Bool) (h0 : Heap) (n0 : Nat) (T : TY Z h0 n0 a cA xA cr ch n cnt wr o) :
    Ctr l Z (⟨"com/example/nuthatch/nuthatch/store/JournalTally", "writes", "()I"⟩ : MethodName) prog_42_method_3_code 1 (some .int) rm0 #[(.ref a)] h0 n0 (fun v h => h0 = h ∧ v = some (.int (if o then wr else cnt))) := by
  have hw := G.1
  obtain ⟨F, -⟩ := T
  refine Ctr.of (n1 := n0) #[.val (.ref a)] (plainFor_of_name pn1) (fun m => by first | (simp [entryFrame, mkF, argsToLocals, Value.category, maxLocals]; done) | rfl) ?_
  intro p e s m below meth c C
  refine g_aloadN C d10_0 (v := (.ref a)) rfl rfl (q := 1) rfl ?_
  refine g_getf C d10_1 (host := "") (Or.inl (wd17 hw)) Via.refl F.2.2.2.2.2.2 (q := 4) rfl ?_
  refine g_if_eq C d10_4 (q' := 14) (q := 7) (by decide) (by decide) rfl (fun hy => ?_) (fun hn => ?_)
  ·
    refine g_aloadN C d10_14 (v := (.ref a)) rfl rfl (q := 15) rfl ?_
    refine g_getf C d10_15 (host := "") (Or.inl (wd43 hw)) Via.refl F.2.2.2.2.1 (q := 18) rfl ?_
    refine g_ireturn C d10_18 (Nat.le_refl _) (by decide) (by decide) ⟨rfl, by rw [(bool_z o).mp hy]; rfl⟩
  ·
    refine g_aloadN C d10_7 (v := (.ref a)) rfl rfl (q := 8) rfl ?_
    refine g_getf C d10_8 (host := "") (Or.inl (wd41 hw)) Via.refl F.2.2.2.2.2.1 (q := 11) rfl ?_
    refine g_goto C d10_11 (q := 18) (by decide) (by decide) ?_
    refine g_ireturn C d10_18 (Nat.le_refl _) (by decide) (by decide) ⟨rfl, by cases o; exact absurd rfl hn; rfl⟩
set_option maxRecDepth 65536 in
set_option maxHeartbeats 40000000 in
theorem c_creation (l : Launch) (Z : State) (a0 : Array Value) (kc ku kd ka : Addr) (G : Gl Z a0 kc ku kd ka) (a cA xA : Addr) (cr : Nat → Int64) (ch : Nat → Int32) (n : Nat) (cnt wr : Int32) (o : Bool) (h0 : Heap) (n0 : Nat) (T : TY Z h0 n0 a cA xA cr ch n cnt wr o) (id : Int64) (hn : n < 64) (hsort : ∀ i j, i < j → j < n → cr i < cr j) (hov : 0 < n → ¬ cr (n - 1) < id → (cr (n - 1)).toInt - id.toInt < 2 ^ 63) :
    Ctr l Z (⟨"com/example/nuthatch/nuthatch/store/JournalTally", "creation", "(J)I"⟩ : MethodName) prog_42_method_6_code 7 (some .int) rmCr #[(.ref a), (.long id)] h0 n0 (fun v h => h0 = h ∧ ∃ r, v = some (.int r) ∧ YR true cr n id r) := by
  have hw := G.1
  obtain ⟨F, A1, A2, -⟩ := T
  refine Ctr.of (n1 := n0) #[.val (.ref a), .val (.long id), .second, .unset, .unset, .unset, .unset] (plainFor_of_name pn1) (fun m => by first | (simp [entryFrame, mkF, argsToLocals, Value.category, maxLocals]; done) | rfl) ?_
  intro p e s m below meth c C
  refine g_iconst C d6_0 (z := (-1 : Int32)) rfl (q := 1) rfl ?_
  refine g_istoreN C d6_1 (L' := #[.val (.ref a), .val (.long id), .second, .val (.int (-1 : Int32)), .unset, .unset, .unset]) rfl (q := 2) rfl ?_
  refine g_aloadN C d6_2 (v := (.ref a)) rfl rfl (q := 3) rfl ?_
  refine g_getf C d6_3 (host := "") (Or.inl (wd38 hw)) Via.refl F.2.2.2.1 (q := 6) rfl ?_
  refine g_if_le C d6_6 (q' := 110) (q := 9) (by decide) (by decide) rfl (fun hy => ?_) (fun hn0 => ?_)
  ·
    have e0 : n = 0 := by
      rcases Nat.eq_zero_or_pos n with e | e
      · exact e
      · exact absurd ((ofNat_lt (i := 0) (by omega) (by omega)).mpr e) hy
    refine g_iloadN C d6_110 (v := (-1 : Int32)) rfl (q := 111) rfl ?_
    refine g_ireturn C d6_111 (Nat.le_refl _) (by decide) (by decide) ⟨rfl, _, rfl, Or.inr ⟨by decide, Or.inr fun i hi => by omega⟩⟩
  ·
    have hp : 0 < n := (ofNat_lt (i := 0) (by omega) (by omega)).mp hn0
    have es := ofNat_sub1 hp
    refine g_lloadN C d6_9 (v := id) rfl (q := 10) rfl ?_
    refine g_aloadN C d6_10 (v := (.ref a)) rfl rfl (q := 11) rfl ?_
    refine g_getf C d6_11 (host := "") (Or.inl (wd13 hw)) Via.refl F.2.1 (q := 14) rfl ?_
    refine g_aloadN C d6_14 (v := (.ref a)) rfl rfl (q := 15) rfl ?_
    refine g_getf C d6_15 (host := "") (Or.inl (wd38 hw)) Via.refl F.2.2.2.1 (q := 18) rfl ?_
    refine g_iconst C d6_18 (z := (1 : Int32)) rfl (q := 19) rfl ?_
    refine g_isub C d6_19 (q := 20) rfl ?_
    refine g_laload C d6_20 (i := (n - 1)) A1 (by omega) es rfl (q := 21) rfl ?_
    refine g_lcmp C d6_21 (q := 22) rfl ?_
    refine g_if_gt C d6_22 (q' := 110) (q := 25) (by decide) (by decide) rfl (fun hgt => ?_) (fun hle => ?_)
    ·
      refine g_iloadN C d6_110 (v := (-1 : Int32)) rfl (q := 111) rfl ?_
      refine g_ireturn C d6_111 (Nat.le_refl _) (by decide) (by decide) ⟨rfl, _, rfl, Or.inr ⟨by decide, Or.inr fun i hi => fun e => by
            have q := (cmpL_gt _ _).mp hgt
            rcases Nat.lt_or_eq_of_le (Nat.le_sub_one_of_lt hi) with q2 | q2
            · have := Int64.lt_trans (hsort i (n - 1) q2 (by omega)) q; rw [e] at this; exact absurd this Int64.lt_irrefl
            · rw [← q2, e] at q; exact absurd q Int64.lt_irrefl⟩⟩
    ·
      have hle' : ¬ cr (n - 1) < id := fun q => hle ((cmpL_gt _ _).mpr q)
      refine g_aloadN C d6_25 (v := (.ref a)) rfl rfl (q := 26) rfl ?_
      refine g_getf C d6_26 (host := "") (Or.inl (wd13 hw)) Via.refl F.2.1 (q := 29) rfl ?_
      refine g_aloadN C d6_29 (v := (.ref a)) rfl rfl (q := 30) rfl ?_
      refine g_getf C d6_30 (host := "") (Or.inl (wd38 hw)) Via.refl F.2.2.2.1 (q := 33) rfl ?_
      refine g_iconst C d6_33 (z := (1 : Int32)) rfl (q := 34) rfl ?_
      refine g_isub C d6_34 (q := 35) rfl ?_
      refine g_laload C d6_35 (i := (n - 1)) A1 (by omega) es rfl (q := 36) rfl ?_
      refine g_lloadN C d6_36 (v := id) rfl (q := 37) rfl ?_
      refine g_lsub C d6_37 (q := 38) rfl ?_
      refine g_lstore C d6_38 (L' := #[.val (.ref a), .val (.long id), .second, .val (.int (-1 : Int32)), .val (.long ((cr (n - 1)) - id)), .second, .unset]) rfl (q := 40) rfl ?_
      refine g_lload C d6_40 (v := ((cr (n - 1)) - id)) rfl (q := 42) rfl ?_
      refine g_aloadN C d6_42 (v := (.ref a)) rfl rfl (q := 43) rfl ?_
      refine g_getf C d6_43 (host := "") (Or.inl (wd38 hw)) Via.refl F.2.2.2.1 (q := 46) rfl ?_
      refine Go.join (pc' := 75) (Ls' := #[.val (.ref a), .val (.long id), .second, .val (.int (-1 : Int32)), .val (.long ((cr (n - 1)) - id)), .second, .unset]) (st' := []) ?_ (fun J => ?_)
      ·
        refine g_iconst C d6_75 (z := (0 : Int32)) rfl (q := 76) rfl ?_
        refine g_istore C d6_76 (L' := #[.val (.ref a), .val (.long id), .second, .val (.int (-1 : Int32)), .val (.long ((cr (n - 1)) - id)), .second, .val (.int (0 : Int32))]) rfl (q := 78) rfl ?_
        refine g_iload C d6_78 (v := (0 : Int32)) rfl (q := 80) rfl ?_
        refine g_if_eq C d6_80 (q' := 96) (q := 83) (by decide) (by decide) rfl (fun hy => ?_) (fun hn => absurd rfl hn)
        refine g_aloadN C d6_96 (v := (.ref a)) rfl rfl (q := 97) rfl ?_
        refine g_getf C d6_97 (host := "") (Or.inl (wd13 hw)) Via.refl F.2.1 (q := 100) rfl ?_
        refine g_iconst C d6_100 (z := (0 : Int32)) rfl (q := 101) rfl ?_
        refine g_aloadN C d6_101 (v := (.ref a)) rfl rfl (q := 102) rfl ?_
        refine g_getf C d6_102 (host := "") (Or.inl (wd38 hw)) Via.refl F.2.2.2.1 (q := 105) rfl ?_
        refine g_lloadN C d6_105 (v := id) rfl (q := 106) rfl ?_
        refine g_callS C (W := 0) (argsL := [(.ref cA), (.int (0 : Int32)), (.int (Int32.ofNat n)), (.long id)]) (rest := []) d6_106 (wd45 hw) (wd46 hw) (wd47 hw) (wd48 hw) (by decide) (Ctr.bk (c_bs l Z a0 kc ku kd ka G cA 64 n cr id h0 n0 (by omega) (by omega) A1 hsort) C (wd48 hw) (wd47 hw) (by decide) (by decide)) (by decide) (by decide) rfl (lenOf pd1 rfl) rfl rfl (q := 109) rfl (fun v2 h2 hQ2 => ?_)
        obtain ⟨rfl, hQ⟩ := hQ2
        obtain ⟨r, rfl, hR⟩ : ∃ r, v2 = some (.int r) ∧ YR true cr n id r := by
          rcases hQ with ⟨i, h1, h2, rfl⟩ | ⟨r, rfl, h1, h2⟩
          · exact ⟨_, rfl, Or.inl ⟨rfl, i, h1, h2, rfl⟩⟩
          · exact ⟨r, rfl, Or.inr ⟨h1, Or.inr h2⟩⟩
        refine ⟨[(.int r)], rfl, ?_⟩
        refine g_istoreN C d6_109 (L' := #[.val (.ref a), .val (.long id), .second, .val (.int r), .val (.long ((cr (n - 1)) - id)), .second, .val (.int (0 : Int32))]) rfl (q := 110) rfl ?_
        refine g_iloadN C d6_110 (v := r) rfl (q := 111) rfl ?_
        refine g_ireturn C d6_111 (Nat.le_refl _) (by decide) (by decide) ⟨rfl, r, rfl, hR⟩
      ·
        refine g_i2l C d6_46 (q := 47) rfl ?_
        refine g_lcmp C d6_47 (q := 48) rfl ?_
        refine g_if_ge C d6_48 (q' := 75) (q := 51) (by decide) (by decide) rfl (fun hy => J) (fun hlt => ?_)
        obtain ⟨b, hb, eb⟩ := back_idx (by omega) hle' (hov hp hle') ((cmpL_lt _ _).mp hlt)
        have ei : Int32.ofNat n - 1 - (cr (n - 1) - id).toInt32 = Int32.ofNat (n - 1 - b) := by rw [es, eb, ofNat_subn (by omega)]
        refine g_aloadN C d6_51 (v := (.ref a)) rfl rfl (q := 52) rfl ?_
        refine g_getf C d6_52 (host := "") (Or.inl (wd13 hw)) Via.refl F.2.1 (q := 55) rfl ?_
        refine g_aloadN C d6_55 (v := (.ref a)) rfl rfl (q := 56) rfl ?_
        refine g_getf C d6_56 (host := "") (Or.inl (wd38 hw)) Via.refl F.2.2.2.1 (q := 59) rfl ?_
        refine g_iconst C d6_59 (z := (1 : Int32)) rfl (q := 60) rfl ?_
        refine g_isub C d6_60 (q := 61) rfl ?_
        refine g_lload C d6_61 (v := ((cr (n - 1)) - id)) rfl (q := 63) rfl ?_
        refine g_l2i C d6_63 (q := 64) rfl ?_
        refine g_isub C d6_64 (q := 65) rfl ?_
        refine g_laload C d6_65 (i := (n - 1 - b)) A1 (by omega) ei rfl (q := 66) rfl ?_
        refine g_lloadN C d6_66 (v := id) rfl (q := 67) rfl ?_
        refine g_lcmp C d6_67 (q := 68) rfl ?_
        refine g_if_ne C d6_68 (q' := 75) (q := 71) (by decide) (by decide) rfl (fun hy => J) (fun heq => ?_)
        refine g_iconst C d6_71 (z := (1 : Int32)) rfl (q := 72) rfl ?_
        refine g_goto C d6_72 (q := 76) (by decide) (by decide) ?_
        refine g_istore C d6_76 (L' := #[.val (.ref a), .val (.long id), .second, .val (.int (-1 : Int32)), .val (.long ((cr (n - 1)) - id)), .second, .val (.int (1 : Int32))]) rfl (q := 78) rfl ?_
        refine g_iload C d6_78 (v := (1 : Int32)) rfl (q := 80) rfl ?_
        refine g_if_eq C d6_80 (q' := 96) (q := 83) (by decide) (by decide) rfl (fun hy => absurd hy (by decide)) (fun hn => ?_)
        refine g_aloadN C d6_83 (v := (.ref a)) rfl rfl (q := 84) rfl ?_
        refine g_getf C d6_84 (host := "") (Or.inl (wd38 hw)) Via.refl F.2.2.2.1 (q := 87) rfl ?_
        refine g_iconst C d6_87 (z := (1 : Int32)) rfl (q := 88) rfl ?_
        refine g_isub C d6_88 (q := 89) rfl ?_
        refine g_lload C d6_89 (v := ((cr (n - 1)) - id)) rfl (q := 91) rfl ?_
        refine g_l2i C d6_91 (q := 92) rfl ?_
        refine g_isub C d6_92 (q := 93) rfl ?_
        refine g_goto C d6_93 (q := 109) (by decide) (by decide) ?_
        refine g_istoreN C d6_109 (L' := #[.val (.ref a), .val (.long id), .second, .val (.int (((Int32.ofNat n) - (1 : Int32)) - (((cr (n - 1)) - id).toInt32))), .val (.long ((cr (n - 1)) - id)), .second, .val (.int (1 : Int32))]) rfl (q := 110) rfl ?_
        refine g_iloadN C d6_110 (v := (((Int32.ofNat n) - (1 : Int32)) - (((cr (n - 1)) - id).toInt32))) rfl (q := 111) rfl ?_
        refine g_ireturn C d6_111 (Nat.le_refl _) (by decide) (by decide) ⟨rfl, _, rfl, Or.inl ⟨rfl, n - 1 - b, by omega, (cmpL_eq _ _).mp heq, ei⟩⟩
set_option maxRecDepth 65536 in
set_option maxHeartbeats 40000000 in
theorem c_add (l : Launch) (Z : State) (a0 : Array Value) (kc ku kd ka : Addr) (G : Gl Z a0 kc ku kd ka) (a cA xA : Addr) (cr : Nat → Int64) (ch : Nat → Int32) (n : Nat) (cnt wr : Int32) (o : Bool) (h0 : Heap) (n0 : Nat) (T : TY Z h0 n0 a cA xA cr ch n cnt wr o) (kv : Addr) (id : Int64) (X0 : Ext Z.heap h0) (hn : n < 64) (hs : o = true → ∀ i j, i < j → j < n → cr i < cr j) (hov : o = true → 0 < n → ¬ cr (n - 1) < id → (cr (n - 1)).toInt - id.toInt < 2 ^ 63) :
    Ctr l Z (⟨"com/example/nuthatch/nuthatch/store/JournalTally", "add", "(Lcom/example/nuthatch/nuthatch/store/ChangeRecord$Kind;J)V"⟩ : MethodName) prog_42_method_2_code 5 none rmAdd #[(.ref a), (.ref kv), (.long id)] h0 n0 (fun v h => v = none ∧ Keep h0 h [a, cA, xA] ∧ ∃ cr' ch' n' wr' o', TY Z h n0 a cA xA cr' ch' n' (cnt + 1) wr' o' ∧ MA kc kd kv id cr ch n wr o cr' ch' n' wr' o') := by
  have hw := G.1
  have G' := G
  obtain ⟨-, S1, -, S3, -, -, hdc, -⟩ := G'
  have T0 := T
  obtain ⟨F, A1, A2, ga, gc, gx, d1, d2, d3⟩ := T
  refine Ctr.of (n1 := n0) #[.val (.ref a), .val (.ref kv), .val (.long id), .second, .unset] (plainFor_of_name pn1) (fun m => by first | (simp [entryFrame, mkF, argsToLocals, Value.category, maxLocals]; done) | rfl) ?_
  intro p e s m below meth c C
  refine g_aloadN C d5_0 (v := (.ref a)) rfl rfl (q := 1) rfl ?_
  refine g_getf C d5_1 (host := "") (Or.inl (wd17 hw)) Via.refl F.2.2.2.2.2.2 (q := 4) rfl ?_
  refine Go.joinR (pc' := 16) (YR o cr n id) (fun _ => #[.val (.ref a), .val (.ref kv), .val (.long id), .second, .unset]) (fun r => [.int r]) ?_ (fun J => ?_)
  ·
    intro r hR
    refine g_istore C d5_16 (L' := #[.val (.ref a), .val (.ref kv), .val (.long id), .second, .val (.int r)]) rfl (q := 18) rfl ?_
    refine g_aloadN C d5_18 (v := (.ref kv)) rfl rfl (q := 19) rfl ?_
    refine g_gets C d5_19 (host := "") (Or.inl (wd40 hw)) Via.refl (S1.ext X0) (q := 22) rfl ?_
    refine g_acmp_ne C d5_22 rfl rfl (q' := 151) (q := 25) (by decide) (by decide) rfl (fun hne => ?_) (fun hke => ?_)
    ·
      have hne' : ¬ kv = kc := fun q => hne (by rw [q])
      have wr1 : ∀ (h3 : Heap) (ch3 : Nat → Int32), JF Z h3 a (.ref cA) (.ref xA) (.int (Int32.ofNat n)) (.int cnt) (.int wr) (.int (if o then 1 else 0)) → Av Z h3 cA .long 64 (fun j => .long (cr j)) → Av Z h3 xA .int 64 (fun j => .int (ch3 j)) → Keep h0 h3 [a, cA, xA] → (MA kc kd kv id cr ch n wr o cr ch3 n (wr + 1) o) → Go p l e rmAdd s m #[.ref a, .ref kv, .long id] below meth c (FinN s below rmAdd n0 (fun v h => v = none ∧ Keep h0 h [a, cA, xA] ∧ ∃ cr' ch' n' wr' o', TY Z h n0 a cA xA cr' ch' n' (cnt + 1) wr' o' ∧ MA kc kd kv id cr ch n wr o cr' ch' n' wr' o')) n0 h3 0 0 226 #[.val (.ref a), .val (.ref kv), .val (.long id), .second, .val (.int r)] [] := by
        intro h3 ch3 F A1 A2 K3 hM
        refine g_aloadN C d5_226 (v := (.ref a)) rfl rfl (q := 227) rfl ?_
        refine g_dup C d5_227 rfl (q := 228) rfl ?_
        refine g_getf C d5_228 (host := "") (Or.inl (wd41 hw)) Via.refl F.2.2.2.2.2.1 (q := 231) rfl ?_
        refine g_iconst C d5_231 (z := (1 : Int32)) rfl (q := 232) rfl ?_
        refine g_iadd C d5_232 (q := 233) rfl ?_
        refine g_putf C d5_233 (host := "") (Or.inl (wd41 hw)) Via.refl F.2.2.2.2.2.1 F.1 (Or.inl (wd42 hw)) (wd5 hw) (ty := .int) (by decide) rfl rfl ga (q := 236) rfl (fun h4 W4 => ?_)
        have F := F.w4 hw W4
        have A1 := A1.other W4 (Ne.symm d1)
        have A2 := A2.other W4 (Ne.symm d2)
        refine g_aloadN C d5_236 (v := (.ref a)) rfl rfl (q := 237) rfl ?_
        refine g_dup C d5_237 rfl (q := 238) rfl ?_
        refine g_getf C d5_238 (host := "") (Or.inl (wd43 hw)) Via.refl F.2.2.2.2.1 (q := 241) rfl ?_
        refine g_iconst C d5_241 (z := (1 : Int32)) rfl (q := 242) rfl ?_
        refine g_iadd C d5_242 (q := 243) rfl ?_
        refine g_putf C d5_243 (host := "") (Or.inl (wd43 hw)) Via.refl F.2.2.2.2.1 F.1 (Or.inl (wd44 hw)) (wd5 hw) (ty := .int) (by decide) rfl rfl ga (q := 246) rfl (fun h9 W9 => ?_)
        have F := F.w3 hw W9
        have A1 := A1.other W9 (Ne.symm d1)
        have A2 := A2.other W9 (Ne.symm d2)
        refine g_return C d5_246 (Nat.le_refl _) (by decide) (by decide) ⟨rfl, (K3.wr W4 (Or.inl (by simp))).wr W9 (Or.inl (by simp)), _, _, _, _, _, ⟨F, A1, A2, ga, gc, gx, d1, d2, d3⟩, hM⟩
      refine g_iload C d5_151 (v := r) rfl (q := 153) rfl ?_
      refine g_if_lt C d5_153 (q' := 200) (q := 156) (by decide) (by decide) rfl (fun hneg => ?_) (fun hnn => ?_)
      ·
        have hno : o = false ∨ ∀ i, i < n → ¬ cr i = id := by
          rcases hR with ⟨-, i, h1, -, rfl⟩ | ⟨-, q⟩
          · exact absurd hneg (ofNat_nonneg (by omega))
          · exact q
        refine g_iload C d5_200 (v := r) rfl (q := 202) rfl ?_
        refine g_if_lt C d5_202 (q' := 226) (q := 205) (by decide) (by decide) rfl (fun hy => ?_) (fun hn => absurd hneg hn)
        exact wr1 h0 ch F A1 A2 (Keep.refl _ _) (Or.inr ⟨hne', rfl, rfl, rfl, Or.inr (Or.inr ⟨hno.imp (fun q => q) Or.inl, rfl, rfl⟩)⟩)
      ·
        obtain ⟨ho, i, hi, hci, rfl⟩ : o = true ∧ ∃ i, i < n ∧ cr i = id ∧ r = Int32.ofNat i := by
          rcases hR with q | ⟨q, -⟩
          · exact q
          · exact absurd q hnn
        refine g_aloadN C d5_156 (v := (.ref a)) rfl rfl (q := 157) rfl ?_
        refine g_getf C d5_157 (host := "") (Or.inl (wd15 hw)) Via.refl F.2.2.1 (q := 160) rfl ?_
        refine g_iload C d5_160 (v := (Int32.ofNat i)) rfl (q := 162) rfl ?_
        refine g_iaload C d5_162 (i := i) A2 (by omega) rfl rfl (q := 163) rfl ?_
        refine g_if_le C d5_163 (q' := 200) (q := 166) (by decide) (by decide) rfl (fun hnp => ?_) (fun hps => ?_)
        ·
          refine g_iload C d5_200 (v := (Int32.ofNat i)) rfl (q := 202) rfl ?_
          refine g_if_lt C d5_202 (q' := 226) (q := 205) (by decide) (by decide) rfl (fun hy => absurd hy (ofNat_nonneg (by omega))) (fun hn => ?_)
          refine g_aloadN C d5_205 (v := (.ref a)) rfl rfl (q := 206) rfl ?_
          refine g_getf C d5_206 (host := "") (Or.inl (wd15 hw)) Via.refl F.2.2.1 (q := 209) rfl ?_
          refine g_iload C d5_209 (v := (Int32.ofNat i)) rfl (q := 211) rfl ?_
          refine g_iaload C d5_211 (i := i) A2 (by omega) rfl rfl (q := 212) rfl ?_
          refine g_if_le C d5_212 (q' := 226) (q := 215) (by decide) (by decide) rfl (fun hy => ?_) (fun hn => absurd hn hnp)
          exact wr1 h0 ch F A1 A2 (Keep.refl _ _) (Or.inr ⟨hne', rfl, rfl, rfl, Or.inr (Or.inr ⟨Or.inr (Or.inr ⟨i, hi, hci, hnp⟩), rfl, rfl⟩)⟩)
        ·
          refine g_aloadN C d5_166 (v := (.ref kv)) rfl rfl (q := 167) rfl ?_
          refine g_gets C d5_167 (host := "") (Or.inl (wd66 hw)) Via.refl (S3.ext X0) (q := 170) rfl ?_
          refine g_acmp_ne C d5_170 rfl rfl (q' := 200) (q := 173) (by decide) (by decide) rfl (fun hnd => ?_) (fun hde => ?_)
          ·
            have hnd' : ¬ kv = kd := fun q => hnd (by rw [q])
            refine g_iload C d5_200 (v := (Int32.ofNat i)) rfl (q := 202) rfl ?_
            refine g_if_lt C d5_202 (q' := 226) (q := 205) (by decide) (by decide) rfl (fun hy => absurd hy (ofNat_nonneg (by omega))) (fun hn => ?_)
            refine g_aloadN C d5_205 (v := (.ref a)) rfl rfl (q := 206) rfl ?_
            refine g_getf C d5_206 (host := "") (Or.inl (wd15 hw)) Via.refl F.2.2.1 (q := 209) rfl ?_
            refine g_iload C d5_209 (v := (Int32.ofNat i)) rfl (q := 211) rfl ?_
            refine g_iaload C d5_211 (i := i) A2 (by omega) rfl rfl (q := 212) rfl ?_
            refine g_if_le C d5_212 (q' := 226) (q := 215) (by decide) (by decide) rfl (fun hy => absurd hps hy) (fun hn => ?_)
            refine g_aloadN C d5_215 (v := (.ref a)) rfl rfl (q := 216) rfl ?_
            refine g_getf C d5_216 (host := "") (Or.inl (wd15 hw)) Via.refl F.2.2.1 (q := 219) rfl ?_
            refine g_iload C d5_219 (v := (Int32.ofNat i)) rfl (q := 221) rfl ?_
            refine g_dup2 C d5_221 rfl rfl (q := 222) rfl ?_
            refine g_iaload C d5_222 (i := i) A2 (by omega) rfl rfl (q := 223) rfl ?_
            refine g_iconst C d5_223 (z := (1 : Int32)) rfl (q := 224) rfl ?_
            refine g_iadd C d5_224 (q := 225) rfl ?_
            refine g_iastore C d5_225 (i := i) A2 (by omega) rfl gx (q := 226) rfl (fun h3 W3 B2 => ?_)
            exact wr1 h3 _ (F.other W3 d2) (A1.other W3 d3) B2.updI ((Keep.refl _ _).wr W3 (Or.inl (by simp))) (Or.inr ⟨hne', rfl, rfl, rfl, Or.inr (Or.inl ⟨hnd', ho, i, hi, hci, hps, rfl, rfl⟩)⟩)
          ·
            have hde' : kv = kd := Value.ref.inj hde
            refine g_aloadN C d5_173 (v := (.ref a)) rfl rfl (q := 174) rfl ?_
            refine g_dup C d5_174 rfl (q := 175) rfl ?_
            refine g_getf C d5_175 (host := "") (Or.inl (wd41 hw)) Via.refl F.2.2.2.2.2.1 (q := 178) rfl ?_
            refine g_aloadN C d5_178 (v := (.ref a)) rfl rfl (q := 179) rfl ?_
            refine g_getf C d5_179 (host := "") (Or.inl (wd15 hw)) Via.refl F.2.2.1 (q := 182) rfl ?_
            refine g_iload C d5_182 (v := (Int32.ofNat i)) rfl (q := 184) rfl ?_
            refine g_iaload C d5_184 (i := i) A2 (by omega) rfl rfl (q := 185) rfl ?_
            refine g_isub C d5_185 (q := 186) rfl ?_
            refine g_putf C d5_186 (host := "") (Or.inl (wd41 hw)) Via.refl F.2.2.2.2.2.1 F.1 (Or.inl (wd42 hw)) (wd5 hw) (ty := .int) (by decide) rfl rfl ga (q := 189) rfl (fun h3 W3 => ?_)
            have F := F.w4 hw W3
            have A1 := A1.other W3 (Ne.symm d1)
            have A2 := A2.other W3 (Ne.symm d2)
            refine g_aloadN C d5_189 (v := (.ref a)) rfl rfl (q := 190) rfl ?_
            refine g_getf C d5_190 (host := "") (Or.inl (wd15 hw)) Via.refl F.2.2.1 (q := 193) rfl ?_
            refine g_iload C d5_193 (v := (Int32.ofNat i)) rfl (q := 195) rfl ?_
            refine g_iconst C d5_195 (z := (0 : Int32)) rfl (q := 196) rfl ?_
            refine g_iastore C d5_196 (i := i) A2 (by omega) rfl gx (q := 197) rfl (fun h4 W4 B2 => ?_)
            have F := F.other W4 d2
            have A1 := A1.other W4 d3
            have A2 := B2.updI
            refine g_goto C d5_197 (q := 236) (by decide) (by decide) ?_
            refine g_aloadN C d5_236 (v := (.ref a)) rfl rfl (q := 237) rfl ?_
            refine g_dup C d5_237 rfl (q := 238) rfl ?_
            refine g_getf C d5_238 (host := "") (Or.inl (wd43 hw)) Via.refl F.2.2.2.2.1 (q := 241) rfl ?_
            refine g_iconst C d5_241 (z := (1 : Int32)) rfl (q := 242) rfl ?_
            refine g_iadd C d5_242 (q := 243) rfl ?_
            refine g_putf C d5_243 (host := "") (Or.inl (wd43 hw)) Via.refl F.2.2.2.2.1 F.1 (Or.inl (wd44 hw)) (wd5 hw) (ty := .int) (by decide) rfl rfl ga (q := 246) rfl (fun h9 W9 => ?_)
            have F := F.w3 hw W9
            have A1 := A1.other W9 (Ne.symm d1)
            have A2 := A2.other W9 (Ne.symm d2)
            refine g_return C d5_246 (Nat.le_refl _) (by decide) (by decide) ⟨rfl, (((Keep.refl h0 [a, cA, xA]).wr W3 (Or.inl (by simp))).wr W4 (Or.inl (by simp))).wr W9 (Or.inl (by simp)), _, _, _, _, _, ⟨F, A1, A2, ga, gc, gx, d1, d2, d3⟩, Or.inr ⟨hne', rfl, rfl, rfl, Or.inl ⟨hde', ho, i, hi, hci, hps, rfl, rfl⟩⟩⟩
    ·
      have hke' : kv = kc := Value.ref.inj hke
      refine g_aloadN C d5_25 (v := (.ref a)) rfl rfl (q := 26) rfl ?_
      refine g_dup C d5_26 rfl (q := 27) rfl ?_
      refine g_getf C d5_27 (host := "") (Or.inl (wd17 hw)) Via.refl F.2.2.2.2.2.2 (q := 30) rfl ?_
      refine g_aloadN C d5_30 (v := (.ref a)) rfl rfl (q := 31) rfl ?_
      refine g_getf C d5_31 (host := "") (Or.inl (wd38 hw)) Via.refl F.2.2.2.1 (q := 34) rfl ?_
      refine Go.joinR (pc' := 58) (fun b : Bool => b = (n == 0 || decide (cr (n - 1) < id))) (fun _ => #[.val (.ref a), .val (.ref kv), .val (.long id), .second, .val (.int r)]) (fun b => [.int (if b then 1 else 0), .int (if o then 1 else 0), .ref a]) ?_ (fun J2 => ?_)
      ·
        intro b hb
        refine g_iand C d5_58 (q := 59) rfl ?_
        rw [bool_and]
        refine g_putf C d5_59 (host := "") (Or.inl (wd17 hw)) Via.refl F.2.2.2.2.2.2 F.1 (Or.inl (wd18 hw)) (wd5 hw) (ty := .boolean) (by decide) (bool_nar _) (bool_fit _) ga (q := 62) rfl (fun h3 W3 => ?_)
        have F := F.w5 hw W3
        have A1 := A1.other W3 (Ne.symm d1)
        have A2 := A2.other W3 (Ne.symm d2)
        refine g_aloadN C d5_62 (v := (.ref a)) rfl rfl (q := 63) rfl ?_
        refine g_getf C d5_63 (host := "") (Or.inl (wd38 hw)) Via.refl F.2.2.2.1 (q := 66) rfl ?_
        refine g_aloadN C d5_66 (v := (.ref a)) rfl rfl (q := 67) rfl ?_
        refine g_getf C d5_67 (host := "") (Or.inl (wd13 hw)) Via.refl F.2.1 (q := 70) rfl ?_
        refine g_alen C d5_70 A1 (z := (64 : Int32)) rfl (q := 71) rfl ?_
        refine g_icmp_ne C d5_71 (q' := 108) (q := 74) (by decide) (by decide) rfl (fun hy => ?_) (fun hn => absurd (ofNat_inj (j := 64) (by omega) (by omega) hn) (by omega))
        refine g_aloadN C d5_108 (v := (.ref a)) rfl rfl (q := 109) rfl ?_
        refine g_getf C d5_109 (host := "") (Or.inl (wd13 hw)) Via.refl F.2.1 (q := 112) rfl ?_
        refine g_aloadN C d5_112 (v := (.ref a)) rfl rfl (q := 113) rfl ?_
        refine g_getf C d5_113 (host := "") (Or.inl (wd38 hw)) Via.refl F.2.2.2.1 (q := 116) rfl ?_
        refine g_lloadN C d5_116 (v := id) rfl (q := 117) rfl ?_
        refine g_lastore C d5_117 (i := n) A1 (by omega) rfl gc (q := 118) rfl (fun h4 W4 B1 => ?_)
        have F := F.other W4 d1
        have A2 := A2.other W4 (Ne.symm d3)
        have A1 := B1.updJ
        refine g_aloadN C d5_118 (v := (.ref a)) rfl rfl (q := 119) rfl ?_
        refine g_getf C d5_119 (host := "") (Or.inl (wd15 hw)) Via.refl F.2.2.1 (q := 122) rfl ?_
        refine g_aloadN C d5_122 (v := (.ref a)) rfl rfl (q := 123) rfl ?_
        refine g_getf C d5_123 (host := "") (Or.inl (wd38 hw)) Via.refl F.2.2.2.1 (q := 126) rfl ?_
        refine g_iconst C d5_126 (z := (1 : Int32)) rfl (q := 127) rfl ?_
        refine g_iastore C d5_127 (i := n) A2 (by omega) rfl gx (q := 128) rfl (fun h5 W5 B2 => ?_)
        have F := F.other W5 d2
        have A1 := A1.other W5 d3
        have A2 := B2.updI
        refine g_aloadN C d5_128 (v := (.ref a)) rfl rfl (q := 129) rfl ?_
        refine g_dup C d5_129 rfl (q := 130) rfl ?_
        refine g_getf C d5_130 (host := "") (Or.inl (wd38 hw)) Via.refl F.2.2.2.1 (q := 133) rfl ?_
        refine g_iconst C d5_133 (z := (1 : Int32)) rfl (q := 134) rfl ?_
        refine g_iadd C d5_134 (q := 135) rfl ?_
        rw [ofNat_add1]
        refine g_putf C d5_135 (host := "") (Or.inl (wd38 hw)) Via.refl F.2.2.2.1 F.1 (Or.inl (wd39 hw)) (wd5 hw) (ty := .int) (by decide) rfl rfl ga (q := 138) rfl (fun h6 W6 => ?_)
        have F := F.w2 hw W6
        have A1 := A1.other W6 (Ne.symm d1)
        have A2 := A2.other W6 (Ne.symm d2)
        refine g_aloadN C d5_138 (v := (.ref a)) rfl rfl (q := 139) rfl ?_
        refine g_dup C d5_139 rfl (q := 140) rfl ?_
        refine g_getf C d5_140 (host := "") (Or.inl (wd41 hw)) Via.refl F.2.2.2.2.2.1 (q := 143) rfl ?_
        refine g_iconst C d5_143 (z := (1 : Int32)) rfl (q := 144) rfl ?_
        refine g_iadd C d5_144 (q := 145) rfl ?_
        refine g_putf C d5_145 (host := "") (Or.inl (wd41 hw)) Via.refl F.2.2.2.2.2.1 F.1 (Or.inl (wd42 hw)) (wd5 hw) (ty := .int) (by decide) rfl rfl ga (q := 148) rfl (fun h7 W7 => ?_)
        have F := F.w4 hw W7
        have A1 := A1.other W7 (Ne.symm d1)
        have A2 := A2.other W7 (Ne.symm d2)
        have K7 : Keep h0 h7 [a, cA, xA] := (((((Keep.refl h0 [a, cA, xA]).wr W3 (Or.inl (by simp))).wr W4 (Or.inl (by simp))).wr W5 (Or.inl (by simp))).wr W6 (Or.inl (by simp))).wr W7 (Or.inl (by simp))
        refine g_goto C d5_148 (q := 236) (by decide) (by decide) ?_
        refine g_aloadN C d5_236 (v := (.ref a)) rfl rfl (q := 237) rfl ?_
        refine g_dup C d5_237 rfl (q := 238) rfl ?_
        refine g_getf C d5_238 (host := "") (Or.inl (wd43 hw)) Via.refl F.2.2.2.2.1 (q := 241) rfl ?_
        refine g_iconst C d5_241 (z := (1 : Int32)) rfl (q := 242) rfl ?_
        refine g_iadd C d5_242 (q := 243) rfl ?_
        refine g_putf C d5_243 (host := "") (Or.inl (wd43 hw)) Via.refl F.2.2.2.2.1 F.1 (Or.inl (wd44 hw)) (wd5 hw) (ty := .int) (by decide) rfl rfl ga (q := 246) rfl (fun h9 W9 => ?_)
        have F := F.w3 hw W9
        have A1 := A1.other W9 (Ne.symm d1)
        have A2 := A2.other W9 (Ne.symm d2)
        refine g_return C d5_246 (Nat.le_refl _) (by decide) (by decide) ⟨rfl, K7.wr W9 (Or.inl (by simp)), _, _, _, _, _, ⟨F, A1, A2, ga, gc, gx, d1, d2, d3⟩, Or.inl ⟨hke', rfl, rfl, rfl, rfl, by rw [hb]⟩⟩
      ·
        refine g_if_eq C d5_34 (q' := 53) (q := 37) (by decide) (by decide) rfl (fun hz => ?_) (fun hnz => ?_)
        ·
          refine g_iconst C d5_53 (z := (1 : Int32)) rfl (q := 54) rfl ?_
          refine g_goto C d5_54 (q := 58) (by decide) (by decide) ?_
          exact J2 true (by rw [show n = 0 from ofNat_inj (j := 0) (by omega) (by omega) hz]; rfl)
        ·
          have hp : 0 < n := Nat.pos_of_ne_zero fun q => hnz (by rw [q]; rfl)
          refine g_lloadN C d5_37 (v := id) rfl (q := 38) rfl ?_
          refine g_aloadN C d5_38 (v := (.ref a)) rfl rfl (q := 39) rfl ?_
          refine g_getf C d5_39 (host := "") (Or.inl (wd13 hw)) Via.refl F.2.1 (q := 42) rfl ?_
          refine g_aloadN C d5_42 (v := (.ref a)) rfl rfl (q := 43) rfl ?_
          refine g_getf C d5_43 (host := "") (Or.inl (wd38 hw)) Via.refl F.2.2.2.1 (q := 46) rfl ?_
          refine g_iconst C d5_46 (z := (1 : Int32)) rfl (q := 47) rfl ?_
          refine g_isub C d5_47 (q := 48) rfl ?_
          refine g_laload C d5_48 (i := (n - 1)) A1 (by omega) (ofNat_sub1 hp) rfl (q := 49) rfl ?_
          refine g_lcmp C d5_49 (q := 50) rfl ?_
          refine g_if_le C d5_50 (q' := 57) (q := 53) (by decide) (by decide) rfl (fun hle => ?_) (fun hgt => ?_)
          ·
            refine g_iconst C d5_57 (z := (0 : Int32)) rfl (q := 58) rfl ?_
            exact J2 false (by simp [show ¬ cr (n - 1) < id from fun q => hle ((cmpL_gt _ _).mpr q)]; omega)
          ·
            refine g_iconst C d5_53 (z := (1 : Int32)) rfl (q := 54) rfl ?_
            refine g_goto C d5_54 (q := 58) (by decide) (by decide) ?_
            exact J2 true (by simp [(cmpL_gt _ _).mp hgt])
  ·
    refine g_if_eq C d5_4 (q' := 15) (q := 7) (by decide) (by decide) rfl (fun hof => ?_) (fun hot => ?_)
    ·
      refine g_iconst C d5_15 (z := (-1 : Int32)) rfl (q := 16) rfl ?_
      exact J _ (Or.inr ⟨by decide, Or.inl ((bool_z o).mp hof)⟩)
    ·
      have ho : o = true := by cases o; exact absurd rfl hot; rfl
      refine g_aloadN C d5_7 (v := (.ref a)) rfl rfl (q := 8) rfl ?_
      refine g_lloadN C d5_8 (v := id) rfl (q := 9) rfl ?_
      refine g_callP C (W := 0) (argsL := [(.long id)]) (rest := []) (a := a) d5_9 (wd34 hw) (wd35 hw) (wd5 hw) (wd37 hw) (by decide) (priv_of C (wd36 hw)) F.1 (Ctr.bk (c_creation l Z a0 kc ku kd ka G a cA xA cr ch n cnt wr o h0 n0 T0 id hn (hs ho) (hov ho)) C (wd37 hw) (wd6 hw) (by decide) (by decide)) (by decide) (by decide) rfl (lenOf pd2 rfl) rfl rfl (q := 12) rfl (fun v2 h2 hQ2 => ?_)
      obtain ⟨rfl, r, rfl, hR⟩ := hQ2
      refine ⟨[(.int r)], rfl, ?_⟩
      refine g_goto C d5_12 (q := 16) (by decide) (by decide) ?_
      exact J r (by rw [ho]; exact hR)
/-- sorted while ordered; no id below 0 -/
def IV (cr : Nat → Int64) (n : Nat) (o : Bool) : Prop := (o = true → ∀ i j, i < j → j < n → cr i < cr j) ∧ ∀ i, i < n → ¬ cr i < 0
theorem IV.hov {cr : Nat → Int64} {n : Nat} {o : Bool} (I : IV cr n o) (id : Int64) (hid : ¬ id < 0) : o = true → 0 < n → ¬ cr (n - 1) < id → (cr (n - 1)).toInt - id.toInt < 2 ^ 63 := fun _ hp _ => by
  have e0 : (0 : Int64).toInt = 0 := rfl
  rw [Int64.lt_iff_toInt_lt] at hid
  have := Int64.toInt_lt (cr (n - 1))
  omega
theorem IV.ma {kc kd kv : Addr} {id : Int64} {cr cr' : Nat → Int64} {ch ch' : Nat → Int32} {n n' : Nat} {wr wr' : Int32} {o o' : Bool} (I : IV cr n o) (hid : ¬ id < 0) (M : MA kc kd kv id cr ch n wr o cr' ch' n' wr' o') : IV cr' n' o' ∧ n' ≤ n + 1 := by
  rcases M with ⟨-, rfl, -, rfl, -, rfl⟩ | ⟨-, rfl, rfl, rfl, -⟩
  · refine ⟨⟨fun ho i j hij hj => ?_, fun i hi => ?_⟩, Nat.le_refl _⟩
    · rw [Bool.and_eq_true] at ho
      obtain ⟨ho, hl⟩ := ho
      by_cases e : j = n
      · subst e
        have ei : ¬ i = j := by omega
        simp only [upd, if_neg ei, if_true]
        have hp : ¬ j = 0 := by omega
        simp [hp] at hl
        by_cases e2 : i = j - 1
        · rw [e2]; exact hl
        · exact Int64.lt_trans (I.1 ho i (j - 1) (by omega) (by omega)) hl
      · have ei : ¬ i = n := by omega
        simp only [upd, if_neg ei, if_neg e]
        exact I.1 ho i j hij (by omega)
    · by_cases e : i = n
      · simp only [upd, e, if_true]; exact hid
      · simp only [upd, if_neg e]; exact I.2 i (by omega)
  · exact ⟨I, by omega⟩
def kf (kc ku kd ka : Addr) (k : Int32) : Addr := if k = 0 then kc else if k = 1 then ku else if k = 2 then kd else ka
set_option maxRecDepth 65536 in
set_option maxHeartbeats 40000000 in
theorem c_kind (l : Launch) (Z : State) (a0 : Array Value) (kc ku kd ka : Addr) (G : Gl Z a0 kc ku kd ka) (k : Int32) (h0 : Heap) (n0 : Nat) (X0 : Ext Z.heap h0) :
    Ctr l Z (⟨"com/example/nuthatch/nuthatch/store/JournalTallyWritesPinLaw", "kind", "(I)Lcom/example/nuthatch/nuthatch/store/ChangeRecord$Kind;"⟩ : MethodName) method_4_code 1 (some (.object "com/example/nuthatch/nuthatch/store/ChangeRecord$Kind")) rm0 #[(.int k)] h0 n0 (fun v h => h0 = h ∧ v = some (.ref (kf kc ku kd ka k))) := by
  have hw := G.1
  obtain ⟨-, S1, S2, S3, S4, -⟩ := G
  refine Ctr.of (n1 := n0) #[.val (.int k)] (plainFor_of_name pn2) (fun m => by first | (simp [entryFrame, mkF, argsToLocals, Value.category, maxLocals]; done) | rfl) ?_
  intro p e s m below meth c C
  refine g_iloadN C d4_0 (v := k) rfl (q := 1) rfl ?_
  refine g_if_ne C d4_1 (q' := 8) (q := 4) (by decide) (by decide) rfl (fun h1 => ?_) (fun e1 => ?_)
  ·
    refine g_iloadN C d4_8 (v := k) rfl (q := 9) rfl ?_
    refine g_iconst C d4_9 (z := (1 : Int32)) rfl (q := 10) rfl ?_
    refine g_icmp_ne C d4_10 (q' := 17) (q := 13) (by decide) (by decide) rfl (fun h2 => ?_) (fun e2 => ?_)
    ·
      refine g_iloadN C d4_17 (v := k) rfl (q := 18) rfl ?_
      refine g_iconst C d4_18 (z := (2 : Int32)) rfl (q := 19) rfl ?_
      refine g_icmp_ne C d4_19 (q' := 26) (q := 22) (by decide) (by decide) rfl (fun h3 => ?_) (fun e3 => ?_)
      ·
        refine g_gets C d4_26 (host := "") (Or.inl (wd64 hw)) Via.refl (S4.ext X0) (q := 29) rfl ?_
        refine g_areturn C d4_29 rfl rfl (Nat.le_refl _) (by decide) (by decide) ⟨rfl, by simp [kf, h1, h2, h3]⟩
      ·
        refine g_gets C d4_22 (host := "") (Or.inl (wd60 hw)) Via.refl (S3.ext X0) (q := 25) rfl ?_
        refine g_areturn C d4_25 rfl rfl (Nat.le_refl _) (by decide) (by decide) ⟨rfl, by simp [kf, e3]⟩
    ·
      refine g_gets C d4_13 (host := "") (Or.inl (wd62 hw)) Via.refl (S2.ext X0) (q := 16) rfl ?_
      refine g_areturn C d4_16 rfl rfl (Nat.le_refl _) (by decide) (by decide) ⟨rfl, by simp [kf, e2]⟩
  ·
    refine g_gets C d4_4 (host := "") (Or.inl (wd26 hw)) Via.refl (S1.ext X0) (q := 7) rfl ?_
    refine g_areturn C d4_7 rfl rfl (Nat.le_refl _) (by decide) (by decide) ⟨rfl, by simp [kf, e1]⟩
theorem and_max (x : Int64) : ¬ (x &&& (9223372036854775807 : Int64)) < 0 := by
  rw [Int64.lt_iff_toInt_lt]
  have e0 : (0 : Int64).toInt = 0 := rfl
  have e1 : (x &&& (9223372036854775807 : Int64)).toBitVec.msb = false := by
    rw [Int64.toBitVec_and, BitVec.msb_and]
    have : ((9223372036854775807 : Int64).toBitVec).msb = false := by decide
    rw [this, Bool.and_false]
  have e2 : (x &&& (9223372036854775807 : Int64)).toInt = ((x &&& (9223372036854775807 : Int64)).toBitVec.toNat : Int) := by
    show ((x &&& (9223372036854775807 : Int64)).toBitVec).toInt = _
    rw [BitVec.toInt_eq_msb_cond, e1]; rfl
  omega
theorem TY.ws {Z : State} {h : Heap} {n0 : Nat} {a cA xA : Addr} {cr : Nat → Int64} {ch : Nat → Int32} {n : Nat} {cnt wr : Int32} {o : Bool} (T : TY Z h n0 a cA xA cr ch n cnt wr o) {w : Nat} (hw : w ≤ n0) : ∀ x ∈ [a, cA, xA], w ≤ x := by
  obtain ⟨-, -, -, g1, g2, g3, -⟩ := T
  intro x hx
  simp only [List.mem_cons, List.not_mem_nil, or_false] at hx
  rcases hx with rfl | rfl | rfl <;> omega
theorem own_apart {A : Nat} {xs ys : List Addr} (h1 : ∀ x ∈ xs, A ≤ x) (h2 : ∀ y ∈ ys, y < A) : ∀ x ∈ xs, x ∉ ys := fun x hx hy => Nat.not_lt.mpr (h1 x hx) (h2 x hy)
theorem TY.lts {Z : State} {h : Heap} {n0 : Nat} {a cA xA : Addr} {cr : Nat → Int64} {ch : Nat → Int32} {n : Nat} {cnt wr : Int32} {o : Bool} (T : TY Z h n0 a cA xA cr ch n cnt wr o) : a < h.size ∧ cA < h.size ∧ xA < h.size := ⟨T.1.1.lt, T.2.1.lt, T.2.2.1.lt⟩
abbrev rmOp : Room := { frames := 4, cells := 0, slots := 0, locals := 128 }
theorem and3 (x : Int32) : ∃ m, m < 4 ∧ x &&& 3 = Int32.ofNat m := by
  refine ⟨(x &&& 3).toBitVec.toNat, ?_, ?_⟩
  · simp only [Int32.toBitVec_and, BitVec.toNat_and]
    exact Nat.lt_succ_of_le Nat.and_le_right
  · apply Int32.toBitVec_inj.mp
    show _ = BitVec.ofNat 32 _
    rw [BitVec.ofNat_toNat]; simp
theorem kf_c {kc ku kd ka : Addr} {k : Int32} (h1 : ¬ ku = kc) (h2 : ¬ kd = kc) (h3 : ¬ ka = kc) : kf kc ku kd ka k = kc ↔ k = 0 := by
  unfold kf
  by_cases e1 : k = 0
  · simp [e1]
  · by_cases e2 : k = 1
    · simp [e2, h1]
    · by_cases e3 : k = 2
      · simp [e3, h2]
      · simp [e1, e2, e3, h3]
theorem kf_d {kc ku kd ka : Addr} {k : Int32} (h1 : ¬ kd = kc) (h2 : ¬ ku = kd) (h3 : ¬ ka = kd) : kf kc ku kd ka k = kd ↔ k = 2 := by
  unfold kf
  by_cases e1 : k = 0
  · simp [e1, Ne.symm h1]
  · by_cases e2 : k = 1
    · simp [e2, h2]
    · by_cases e3 : k = 2
      · simp [e3]
      · simp [e1, e2, e3, h3]
/-- the law's own arrays -/
def AR (Z : State) (h : Heap) (n0 : Nat) (sA mA lA iA nA : Addr) (S M : Nat → Int32) (la : Int64) (idf : Nat → Int64) (cn : Nat → Nat) : Prop :=
  Av Z h sA .int 4 (fun j => .int (S j)) ∧ Av Z h mA .int 4 (fun j => .int (M j)) ∧ Av Z h lA .long 1 (fun j => .long ((fun _ => la) j)) ∧ Av Z h iA .long 4 (fun j => .long (idf j)) ∧ Av Z h nA .int 4 (fun j => .int (Int32.ofNat (cn j))) ∧
  (sA ≠ mA ∧ sA ≠ lA ∧ mA ≠ lA ∧ iA ≠ sA ∧ iA ≠ mA ∧ iA ≠ lA ∧ nA ≠ sA ∧ nA ≠ mA ∧ nA ≠ lA) ∧ n0 ≤ sA ∧ n0 ≤ mA ∧ n0 ≤ lA
theorem AR.keep {Z : State} {h h' : Heap} {n0 : Nat} {sA mA lA iA nA : Addr} {S M : Nat → Int32} {la : Int64} {idf : Nat → Int64} {cn : Nat → Nat} {ws : List Addr} (A : AR Z h n0 sA mA lA iA nA S M la idf cn) (K : Keep h h' ws) (D : ∀ x ∈ [sA, mA, lA, iA, nA], x ∉ ws) : AR Z h' n0 sA mA lA iA nA S M la idf cn := by
  obtain ⟨a1, a2, a3, a4, a5, r⟩ := A
  exact ⟨a1.keep K (D _ (by simp)), a2.keep K (D _ (by simp)), a3.keep K (D _ (by simp)), a4.keep K (D _ (by simp)), a5.keep K (D _ (by simp)), r⟩
theorem AR.ext {Z : State} {h h' : Heap} {n0 : Nat} {sA mA lA iA nA : Addr} {S M : Nat → Int32} {la : Int64} {idf : Nat → Int64} {cn : Nat → Nat} (A : AR Z h n0 sA mA lA iA nA S M la idf cn) (E : Ext h h') : AR Z h' n0 sA mA lA iA nA S M la idf cn := by
  obtain ⟨a1, a2, a3, a4, a5, r⟩ := A
  exact ⟨a1.ext E, a2.ext E, a3.ext E, a4.ext E, a5.ext E, r⟩
theorem AR.s {Z : State} {h h' : Heap} {n0 : Nat} {sA mA lA iA nA : Addr} {S M : Nat → Int32} {la : Int64} {idf : Nat → Int64} {cn : Nat → Nat} {i : Nat} {v : Int32} (A : AR Z h n0 sA mA lA iA nA S M la idf cn) (W : Wr h h' sA i (.int v)) (hi : i < 4) : AR Z h' n0 sA mA lA iA nA (upd S i v) M la idf cn := by
  obtain ⟨a1, a2, a3, a4, a5, ⟨d1, d2, d3, d4, d5, d6, d7, d8, d9⟩, r⟩ := A
  exact ⟨(a1.set W hi).updI, a2.other W (Ne.symm d1), a3.other W (Ne.symm d2), a4.other W d4, a5.other W d7, ⟨d1, d2, d3, d4, d5, d6, d7, d8, d9⟩, r⟩
theorem AR.m {Z : State} {h h' : Heap} {n0 : Nat} {sA mA lA iA nA : Addr} {S M : Nat → Int32} {la : Int64} {idf : Nat → Int64} {cn : Nat → Nat} {i : Nat} {v : Int32} (A : AR Z h n0 sA mA lA iA nA S M la idf cn) (W : Wr h h' mA i (.int v)) (hi : i < 4) : AR Z h' n0 sA mA lA iA nA S (upd M i v) la idf cn := by
  obtain ⟨a1, a2, a3, a4, a5, ⟨d1, d2, d3, d4, d5, d6, d7, d8, d9⟩, r⟩ := A
  exact ⟨a1.other W d1, (a2.set W hi).updI, a3.other W (Ne.symm d3), a4.other W d5, a5.other W d8, ⟨d1, d2, d3, d4, d5, d6, d7, d8, d9⟩, r⟩
theorem AR.l {Z : State} {h h' : Heap} {n0 : Nat} {sA mA lA iA nA : Addr} {S M : Nat → Int32} {la v : Int64} {idf : Nat → Int64} {cn : Nat → Nat} (A : AR Z h n0 sA mA lA iA nA S M la idf cn) (W : Wr h h' lA 0 (.long v)) : AR Z h' n0 sA mA lA iA nA S M v idf cn := by
  obtain ⟨a1, a2, a3, a4, a5, ⟨d1, d2, d3, d4, d5, d6, d7, d8, d9⟩, r⟩ := A
  exact ⟨a1.other W d2, a2.other W d3, (a3.set W (by decide)).congr (fun j hj => by have : j = 0 := by omega
                                                                                    simp [this]), a4.other W d6, a5.other W d9, ⟨d1, d2, d3, d4, d5, d6, d7, d8, d9⟩, r⟩
/-- what the law's op does to its arrays, ahead of the count -/
def LB (kk : Int32) (id : Int64) (c : Nat) (S M : Nat → Int32) (la : Int64) (S2 M2 : Nat → Int32) (la2 : Int64) : Prop :=
  (kk = 0 ∧ S2 = upd S c 1 ∧ la2 = id ∧ M2 = upd (if ¬ M 3 = 0 ∧ ¬ la < id then upd M 2 0 else M) 3 1) ∨
  (kk = 2 ∧ 0 < S c ∧ S2 = upd S c 0 ∧ la2 = la ∧ M2 = upd M 0 (M 0 + S c + 1)) ∨
  (¬ kk = 0 ∧ ¬ kk = 2 ∧ 0 < S c ∧ S2 = upd S c (S c + 1) ∧ la2 = la ∧ M2 = M) ∨
  (¬ kk = 0 ∧ ¬ 0 < S c ∧ S2 = S ∧ la2 = la ∧ M2 = M)
/-- what binds the tally to the law's arrays -/
def IN (idf : Nat → Int64) (cn : Nat → Nat) (cr : Nat → Int64) (ch : Nat → Int32) (n : Nat) (cnt wr : Int32) (o : Bool) (S M : Nat → Int32) (la : Int64) : Prop :=
  IV cr n o ∧ cnt = M 1 ∧ M 2 = (if o then 1 else 0) ∧ (o = true → wr = M 1 - M 0 ∧ (M 3 = 0 ↔ n = 0) ∧ (0 < n → cr (n - 1) = la) ∧ ∀ s, s < 4 → (∀ i, i < n → cr i = idf s → S (cn s) = ch i) ∧ ((∀ i, i < n → ¬ cr i = idf s) → S (cn s) = 0))
theorem i32_a (x y : Int32) : x - y + 1 = x + 1 - y := by
  apply Int32.toBitVec_inj.mp; simp only [Int32.toBitVec_add, Int32.toBitVec_sub]; generalize x.toBitVec = p; generalize y.toBitVec = q; generalize (1 : Int32).toBitVec = r; apply BitVec.eq_of_toNat_eq; simp only [BitVec.toNat_add, BitVec.toNat_sub]; omega
theorem i32_b (x y z : Int32) : x - y - z = x + 1 - (y + z + 1) := by
  apply Int32.toBitVec_inj.mp; simp only [Int32.toBitVec_add, Int32.toBitVec_sub]; generalize x.toBitVec = p; generalize y.toBitVec = q; generalize z.toBitVec = u; generalize (1 : Int32).toBitVec = r; apply BitVec.eq_of_toNat_eq; simp only [BitVec.toNat_add, BitVec.toNat_sub]; omega
theorem IN.step {kc ku kd ka : Addr} {kk : Int32} {s : Nat} {idf : Nat → Int64} {cn : Nat → Nat} {cr cr' : Nat → Int64} {ch ch' : Nat → Int32} {n n' : Nat} {cnt wr wr' : Int32} {o o' : Bool} {S M S2 M2 : Nat → Int32} {la la2 : Int64} (h1 : ¬ ku = kc) (h2 : ¬ kd = kc) (h3 : ¬ ka = kc) (h4 : ¬ ku = kd) (h5 : ¬ ka = kd)
    (hs : s < 4) (hcn : ∀ s t, s < 4 → t < 4 → (idf s = idf t ↔ cn s = cn t)) (hid : ¬ idf s < 0) (I : IN idf cn cr ch n cnt wr o S M la) (MM : MA kc kd (kf kc ku kd ka kk) (idf s) cr ch n wr o cr' ch' n' wr' o') (L : LB kk (idf s) (cn s) S M la S2 M2 la2) :
    IN idf cn cr' ch' n' (cnt + 1) wr' o' S2 (upd M2 1 (M2 1 + 1)) la2 := by
  obtain ⟨iv, e1, e2, eo⟩ := I
  refine ⟨(iv.ma hid MM).1, ?_, ?_, ?_⟩
  · rw [e1]
    rcases L with ⟨-, -, -, rfl⟩ | ⟨-, -, -, -, rfl⟩ | ⟨-, -, -, -, -, rfl⟩ | ⟨-, -, -, -, rfl⟩
    · by_cases q : ¬ M 3 = 0 ∧ ¬ la < idf s
      · rw [if_pos q]; simp [upd]
      · rw [if_neg q]; simp [upd]
    · simp [upd]
    · simp [upd]
    · simp [upd]
  · rcases MM with ⟨hk, -, -, -, -, rfl⟩ | ⟨hk, -, -, rfl, -⟩
    · have k0 := (kf_c h1 h2 h3).mp hk
      rcases L with ⟨-, -, -, rfl⟩ | ⟨q, -⟩ | ⟨q, -⟩ | ⟨q, -⟩
      · cases o
        · by_cases q : ¬ M 3 = 0 ∧ ¬ la < idf s
          · simp [upd, q]
          · simp only [upd, if_neg q]; simp [e2]
        · obtain ⟨-, e3, e4, -⟩ := eo rfl
          by_cases q : ¬ M 3 = 0 ∧ ¬ la < idf s
          · have hn : ¬ n = 0 := fun z => q.1 (e3.mpr z)
            simp [upd, q, hn, e4 (by omega)]
          · have hb : (n == 0 || decide (cr (n - 1) < idf s)) = true := by
              by_cases z : n = 0
              · simp [z]
              · rw [e4 (by omega)]
                have : la < idf s := Classical.byContradiction fun y => q ⟨fun w => z (e3.mp w), y⟩
                simp [this]
            simp only [upd, if_neg q, hb]; simp [e2]
      · rw [k0] at q; exact absurd q (by decide)
      · exact absurd k0 q
      · exact absurd k0 q
    · have k0 : ¬ kk = 0 := fun z => hk ((kf_c h1 h2 h3).mpr z)
      rcases L with ⟨q, -⟩ | ⟨-, -, -, -, rfl⟩ | ⟨-, -, -, -, -, rfl⟩ | ⟨-, -, -, -, rfl⟩
      · exact absurd q k0
      · simp [upd, e2]
      · simp [upd, e2]
      · simp [upd, e2]
  · intro ho'
    rcases MM with ⟨hk, rfl, rfl, rfl, rfl, ho2⟩ | ⟨hk, rfl, rfl, rfl, MM⟩
    · have k0 := (kf_c h1 h2 h3).mp hk
      rw [ho2, Bool.and_eq_true] at ho'
      obtain ⟨ho, hb⟩ := ho'
      obtain ⟨e5, e3, e4, es⟩ := eo ho
      have nq : ¬ (¬ M 3 = 0 ∧ ¬ la < idf s) := by
        rintro ⟨q1, q2⟩
        have hn : ¬ n = 0 := fun z => q1 (e3.mpr z)
        rw [e4 (by omega)] at hb
        simp [hn, q2] at hb
      rcases L with ⟨-, rfl, rfl, rfl⟩ | ⟨q, -⟩ | ⟨q, -⟩ | ⟨q, -⟩
      · rw [if_neg nq]
        refine ⟨?_, ?_, fun _ => ?_, fun t ht => ⟨fun i hi hc => ?_, fun hno => ?_⟩⟩
        · simp only [upd]; simp [e5, i32_a]
        · simp [upd]
        · simp [upd]
        · by_cases ei : i = n
          · subst ei
            simp only [upd, if_true] at hc ⊢
            rw [if_pos ((hcn t s ht hs).mp hc.symm)]
          · simp only [upd, if_neg ei] at hc ⊢
            have hin : i < n := by omega
            have hne : ¬ idf t = idf s := fun z => by
              have hn : ¬ n = 0 := by omega
              rw [z] at hc
              simp [hn] at hb
              by_cases e2 : i = n - 1
              · rw [← e2, hc] at hb; exact absurd hb Int64.lt_irrefl
              · have := Int64.lt_trans (iv.1 ho i (n - 1) (by omega) (by omega)) hb
                rw [hc] at this; exact absurd this Int64.lt_irrefl
            rw [if_neg fun z => hne ((hcn t s ht hs).mpr z)]
            exact (es t ht).1 i hin hc
        · have hne : ¬ idf t = idf s := fun z => hno n (by omega) (by simp [upd, z])
          simp only [upd]
          rw [if_neg fun z => hne ((hcn t s ht hs).mpr z)]
          refine (es t ht).2 fun i hi hc => hno i (by omega) ?_
          simp only [upd, if_neg (show ¬ i = n by omega)]; exact hc
      · rw [k0] at q; exact absurd q (by decide)
      · exact absurd k0 q
      · exact absurd k0 q
    · have k0 : ¬ kk = 0 := fun z => hk ((kf_c h1 h2 h3).mpr z)
      obtain ⟨e5, e3, e4, es⟩ := eo ho'
      have uq : ∀ i j, i < n' → j < n' → cr' i = cr' j → i = j := fun i j hi hj e1 => by
        rcases Nat.lt_trichotomy i j with q | q | q
        · have := iv.1 ho' i j q hj; rw [e1] at this; exact absurd this Int64.lt_irrefl
        · exact q
        · have := iv.1 ho' j i q hi; rw [e1] at this; exact absurd this Int64.lt_irrefl
      have gen : ∀ (i : Nat) (v : Int32), i < n' → cr' i = idf s → ∀ t, t < 4 → (∀ j, j < n' → cr' j = idf t → upd S (cn s) v (cn t) = upd ch i v j) ∧ ((∀ j, j < n' → ¬ cr' j = idf t) → upd S (cn s) v (cn t) = 0) := fun i v hi hci t ht => by
        refine ⟨fun j hj hcj => ?_, fun hno => ?_⟩
        · by_cases e : j = i
          · subst e
            have : cn t = cn s := (hcn t s ht hs).mp (hcj.symm.trans hci)
            simp [upd, this]
          · have : ¬ cn t = cn s := fun z => e (uq j i hj hi (hcj.trans (((hcn t s ht hs).mpr z).trans hci.symm)))
            simp only [upd, if_neg e, if_neg this]; exact (es t ht).1 j hj hcj
        · have : ¬ cn t = cn s := fun z => hno i hi (hci.trans ((hcn t s ht hs).mpr z).symm)
          simp only [upd, if_neg this]; exact (es t ht).2 hno
      rcases MM with ⟨d1, -, i, hi, hci, hp, rfl, rfl⟩ | ⟨d1, -, i, hi, hci, hp, rfl, rfl⟩ | ⟨N, rfl, rfl⟩
      · have k2 := (kf_d h2 h4 h5).mp d1
        have ec := (es s hs).1 i hi hci
        rcases L with ⟨q, -⟩ | ⟨-, p1, rfl, rfl, rfl⟩ | ⟨-, q, -⟩ | ⟨-, q, -⟩
        · exact absurd q k0
        · refine ⟨?_, ?_, e4, gen i 0 hi hci⟩
          · simp only [upd]; simp [e5, ec, i32_b]
          · simpa [upd] using e3
        · exact absurd k2 q
        · rw [ec] at q; exact absurd hp q
      · have k2 : ¬ kk = 2 := fun z => d1 ((kf_d h2 h4 h5).mpr z)
        have ec := (es s hs).1 i hi hci
        rcases L with ⟨q, -⟩ | ⟨q, -⟩ | ⟨-, -, p1, rfl, rfl, rfl⟩ | ⟨-, q, -⟩
        · exact absurd q k0
        · exact absurd q k2
        · refine ⟨?_, ?_, e4, ?_⟩
          · simp only [upd]; simp [e5, i32_a]
          · simpa [upd] using e3
          · rw [← ec]; exact gen i _ hi hci
        · rw [ec] at q; exact absurd hp q
      · have z0 : ¬ 0 < S (cn s) := by
          rcases N with q | q | ⟨i, hi, hci, hp⟩
          · rw [q] at ho'; cases ho'
          · rw [(es s hs).2 q]; decide
          · rw [(es s hs).1 i hi hci]; exact hp
        rcases L with ⟨q, -⟩ | ⟨-, q, -⟩ | ⟨-, -, q, -⟩ | ⟨-, -, rfl, rfl, rfl⟩
        · exact absurd q k0
        · exact absurd q z0
        · exact absurd q z0
        · refine ⟨?_, ?_, e4, es⟩
          · simp only [upd]; simp [e5, i32_a]
          · simpa [upd] using e3
set_option maxRecDepth 65536 in
set_option maxHeartbeats 40000000 in
theorem c_op (l : Launch) (Z : State) (a0 : Array Value) (kc ku kd ka : Addr) (G : Gl Z a0 kc ku kd ka) (t cA xA sA mA lA iA nA : Addr) (cr : Nat → Int64) (ch : Nat → Int32) (n : Nat) (cnt wr : Int32) (o : Bool) (S M : Nat → Int32) (la : Int64) (idf : Nat → Int64) (cn : Nat → Nat) (h0 : Heap) (n0 : Nat) (T : TY Z h0 n0 t cA xA cr ch n cnt wr o) (A : AR Z h0 n0 sA mA lA iA nA S M la idf cn) (I : IN idf cn cr ch n cnt wr o S M la) (X0 : Ext Z.heap h0) (hn : n ≤ 60) (hid : ∀ s, s < 4 → ¬ idf s < 0) (hcl : ∀ s, s < 4 → cn s < 4) (hcn : ∀ s t, s < 4 → t < 4 → (idf s = idf t ↔ cn s = cn t)) (D : ∀ x ∈ [sA, mA, lA, iA, nA], x ∉ [t, cA, xA]) (ks ss iv : Int32) :
    Ctr l Z (⟨"com/example/nuthatch/nuthatch/store/JournalTallyWritesPinLaw", "op", "(Lcom/example/nuthatch/nuthatch/store/JournalTally;[I[I[J[J[IIII)V"⟩ : MethodName) method_3_code 14 none rmOp #[(.ref t), (.ref sA), (.ref mA), (.ref lA), (.ref iA), (.ref nA), (.int ks), (.int ss), (.int iv)] h0 n0 (fun v h => v = none ∧ Keep h0 h [t, cA, xA, sA, mA, lA] ∧ ∃ cr' ch' n' wr' o' S' M' la', TY Z h n0 t cA xA cr' ch' n' (cnt + 1) wr' o' ∧ AR Z h n0 sA mA lA iA nA S' M' la' idf cn ∧ IN idf cn cr' ch' n' (cnt + 1) wr' o' S' M' la' ∧ n' ≤ n + 1) := by
  have hw := G.1
  have G' := G
  obtain ⟨-, -, -, -, -, k1, k2, k3, k4, k5⟩ := G'
  obtain ⟨sN, hsN, es⟩ := and3 (XT.ushr ss (2 * iv))
  refine Ctr.of (n1 := n0) #[.val (.ref t), .val (.ref sA), .val (.ref mA), .val (.ref lA), .val (.ref iA), .val (.ref nA), .val (.int ks), .val (.int ss), .val (.int iv), .unset, .unset, .unset, .unset, .unset] (plainFor_of_name pn2) (fun m => by first | (simp [entryFrame, mkF, argsToLocals, Value.category, maxLocals]; done) | rfl) ?_
  intro p e s m below meth c C
  refine g_iload C d3_0 (v := ks) rfl (q := 2) rfl ?_
  refine g_iconst C d3_2 (z := (2 : Int32)) rfl (q := 3) rfl ?_
  refine g_iload C d3_3 (v := iv) rfl (q := 5) rfl ?_
  refine g_imul C d3_5 (q := 6) rfl ?_
  refine g_iushr C d3_6 (q := 7) rfl ?_
  refine g_iconst C d3_7 (z := (3 : Int32)) rfl (q := 8) rfl ?_
  refine g_iand C d3_8 (q := 9) rfl ?_
  generalize (XT.ushr ks (2 * iv) &&& 3) = kk
  refine g_istore C d3_9 (L' := #[.val (.ref t), .val (.ref sA), .val (.ref mA), .val (.ref lA), .val (.ref iA), .val (.ref nA), .val (.int ks), .val (.int ss), .val (.int iv), .val (.int kk), .unset, .unset, .unset, .unset]) rfl (q := 11) rfl ?_
  refine g_iload C d3_11 (v := ss) rfl (q := 13) rfl ?_
  refine g_iconst C d3_13 (z := (2 : Int32)) rfl (q := 14) rfl ?_
  refine g_iload C d3_14 (v := iv) rfl (q := 16) rfl ?_
  refine g_imul C d3_16 (q := 17) rfl ?_
  refine g_iushr C d3_17 (q := 18) rfl ?_
  refine g_iconst C d3_18 (z := (3 : Int32)) rfl (q := 19) rfl ?_
  refine g_iand C d3_19 (q := 20) rfl ?_
  rw [es]
  refine g_istore C d3_20 (L' := #[.val (.ref t), .val (.ref sA), .val (.ref mA), .val (.ref lA), .val (.ref iA), .val (.ref nA), .val (.int ks), .val (.int ss), .val (.int iv), .val (.int kk), .val (.int (Int32.ofNat sN)), .unset, .unset, .unset]) rfl (q := 22) rfl ?_
  refine g_aload C d3_22 (v := (.ref iA)) rfl rfl (q := 24) rfl ?_
  refine g_iload C d3_24 (v := (Int32.ofNat sN)) rfl (q := 26) rfl ?_
  refine g_laload C d3_26 (i := sN) A.2.2.2.1 hsN rfl rfl (q := 27) rfl ?_
  refine g_lstore C d3_27 (L' := #[.val (.ref t), .val (.ref sA), .val (.ref mA), .val (.ref lA), .val (.ref iA), .val (.ref nA), .val (.int ks), .val (.int ss), .val (.int iv), .val (.int kk), .val (.int (Int32.ofNat sN)), .val (.long (idf sN)), .second, .unset]) rfl (q := 29) rfl ?_
  refine g_aload C d3_29 (v := (.ref nA)) rfl rfl (q := 31) rfl ?_
  refine g_iload C d3_31 (v := (Int32.ofNat sN)) rfl (q := 33) rfl ?_
  refine g_iaload C d3_33 (i := sN) A.2.2.2.2.1 hsN rfl rfl (q := 34) rfl ?_
  refine g_istore C d3_34 (L' := #[.val (.ref t), .val (.ref sA), .val (.ref mA), .val (.ref lA), .val (.ref iA), .val (.ref nA), .val (.int ks), .val (.int ss), .val (.int iv), .val (.int kk), .val (.int (Int32.ofNat sN)), .val (.long (idf sN)), .second, .val (.int (Int32.ofNat (cn sN)))]) rfl (q := 36) rfl ?_
  refine g_aloadN C d3_36 (v := (.ref t)) rfl rfl (q := 37) rfl ?_
  refine g_iload C d3_37 (v := kk) rfl (q := 39) rfl ?_
  refine g_callS C (W := 1) (argsL := [(.int kk)]) (rest := [(.ref t)]) d3_39 (wd23 hw) (wd24 hw) (wd21 hw) (wd25 hw) (by decide) (Ctr.bk (c_kind l Z a0 kc ku kd ka G kk h0 n0 X0) C (wd25 hw) (wd21 hw) (by decide) (by decide)) (by decide) (by decide) rfl (lenOf pd3 rfl) rfl rfl (q := 42) rfl (fun vk hk hQk => ?_)
  obtain ⟨rfl, rfl⟩ := hQk
  refine ⟨[(.ref (kf kc ku kd ka kk)), (.ref t)], rfl, ?_⟩
  refine g_lload C d3_42 (v := (idf sN)) rfl (q := 44) rfl ?_
  refine g_callV C (W := 0) (argsL := [(.ref (kf kc ku kd ka kk)), (.long (idf sN))]) (rest := []) (a := t) d3_44 (wd29 hw) (wd30 hw) (wd32 hw) (wd31 hw) (by decide) (nf_of C (wd32 hw)) T.1.1 (Ctr.bk (c_add l Z a0 kc ku kd ka G t cA xA cr ch n cnt wr o h0 n0 T _ (idf sN) X0 (by omega) I.1.1 (I.1.hov _ (hid sN hsN))) C (wd33 hw) (wd6 hw) (by decide) (by decide)) (by decide) (by decide) rfl (lenOf pd4 rfl) rfl rfl (q := 47) rfl (fun v1 h1 hQ1 => ?_)
  obtain ⟨rfl, K1, cr', ch', n', wr', o', T1, MM⟩ := hQ1
  refine ⟨[], rfl, ?_⟩
  have A1 := A.keep K1 D
  have Kb : Keep h0 h1 [t, cA, xA, sA, mA, lA] := ⟨K1.1, fun x c hc hn => K1.2.1 x c hc (fun hm => hn (by simp only [List.mem_cons, List.not_mem_nil, or_false] at hm ⊢; rcases hm with r | r | r <;> simp [r])), K1.2.2⟩
  have nn : n' ≤ n + 1 := (I.1.ma (hid sN hsN) MM).2
  have hc4 := hcl sN hsN
  have Dt : ∀ y ∈ [sA, mA, lA], t ≠ y ∧ cA ≠ y ∧ xA ≠ y := fun y hy => by
    have q := D y (by simp only [List.mem_cons, List.not_mem_nil, or_false] at hy ⊢; rcases hy with r | r | r <;> simp [r])
    simp only [List.mem_cons, List.not_mem_nil, or_false, not_or] at q
    exact ⟨Ne.symm q.1, Ne.symm q.2.1, Ne.symm q.2.2⟩
  have TW : ∀ {h h' : Heap} {y : Addr} {i : Nat} {v : Value}, y ∈ [sA, mA, lA] → Wr h h' y i v → TY Z h n0 t cA xA cr' ch' n' (cnt + 1) wr' o' → TY Z h' n0 t cA xA cr' ch' n' (cnt + 1) wr' o' := fun hy W T => ⟨T.1.other W (Dt _ hy).1, T.2.1.other W (Dt _ hy).2.1, T.2.2.1.other W (Dt _ hy).2.2, T.2.2.2⟩
  have J : ∀ (h2 : Heap) (S2 M2 : Nat → Int32) (la2 : Int64), AR Z h2 n0 sA mA lA iA nA S2 M2 la2 idf cn → TY Z h2 n0 t cA xA cr' ch' n' (cnt + 1) wr' o' → Keep h0 h2 [t, cA, xA, sA, mA, lA] → LB kk (idf sN) (cn sN) S M la S2 M2 la2 → Go p l e rmOp s m #[(.ref t), (.ref sA), (.ref mA), (.ref lA), (.ref iA), (.ref nA), (.int ks), (.int ss), (.int iv)] below meth c (FinN s below rmOp n0 (fun v h => v = none ∧ Keep h0 h [t, cA, xA, sA, mA, lA] ∧ ∃ cr' ch' n' wr' o' S' M' la', TY Z h n0 t cA xA cr' ch' n' (cnt + 1) wr' o' ∧ AR Z h n0 sA mA lA iA nA S' M' la' idf cn ∧ IN idf cn cr' ch' n' (cnt + 1) wr' o' S' M' la' ∧ n' ≤ n + 1)) n0 h2 (0 + rm0.cells + rmAdd.cells) (0 + rm0.slots + rmAdd.slots) 145 #[.val (.ref t), .val (.ref sA), .val (.ref mA), .val (.ref lA), .val (.ref iA), .val (.ref nA), .val (.int ks), .val (.int ss), .val (.int iv), .val (.int kk), .val (.int (Int32.ofNat sN)), .val (.long (idf sN)), .second, .val (.int (Int32.ofNat (cn sN)))] [] := by
    intro h2 S2 M2 la2 A2 T2 K2 hL
    refine g_aloadN C d3_145 (v := (.ref mA)) rfl rfl (q := 146) rfl ?_
    refine g_iconst C d3_146 (z := (1 : Int32)) rfl (q := 147) rfl ?_
    refine g_aloadN C d3_147 (v := (.ref mA)) rfl rfl (q := 148) rfl ?_
    refine g_iconst C d3_148 (z := (1 : Int32)) rfl (q := 149) rfl ?_
    refine g_iaload C d3_149 (i := 1) A2.2.1 (by decide) rfl rfl (q := 150) rfl ?_
    refine g_iconst C d3_150 (z := (1 : Int32)) rfl (q := 151) rfl ?_
    refine g_iadd C d3_151 (q := 152) rfl ?_
    refine g_iastore C d3_152 (i := 1) A2.2.1 (by decide) rfl A2.2.2.2.2.2.2.2.1 (q := 153) rfl (fun h9 W9 B9 => ?_)
    refine g_return C d3_153 (Nat.le_refl _) (by decide) (by decide) ⟨rfl, K2.wr W9 (Or.inl (by simp)), _, _, _, _, _, _, _, _, TW (by simp) W9 T2, A2.m W9 (by decide), IN.step k1 k2 k3 k4 k5 hsN hcn (hid sN hsN) I MM hL, nn⟩
  refine g_iload C d3_47 (v := kk) rfl (q := 49) rfl ?_
  refine g_if_ne C d3_49 (q' := 88) (q := 52) (by decide) (by decide) rfl (fun hk0 => ?_) (fun ek0 => ?_)
  ·
    have J2 : (¬ kk = 2 ∨ ¬ 0 < S (cn sN)) → Go p l e rmOp s m #[(.ref t), (.ref sA), (.ref mA), (.ref lA), (.ref iA), (.ref nA), (.int ks), (.int ss), (.int iv)] below meth c (FinN s below rmOp n0 (fun v h => v = none ∧ Keep h0 h [t, cA, xA, sA, mA, lA] ∧ ∃ cr' ch' n' wr' o' S' M' la', TY Z h n0 t cA xA cr' ch' n' (cnt + 1) wr' o' ∧ AR Z h n0 sA mA lA iA nA S' M' la' idf cn ∧ IN idf cn cr' ch' n' (cnt + 1) wr' o' S' M' la' ∧ n' ≤ n + 1)) n0 h1 (0 + rm0.cells + rmAdd.cells) (0 + rm0.slots + rmAdd.slots) 122 #[.val (.ref t), .val (.ref sA), .val (.ref mA), .val (.ref lA), .val (.ref iA), .val (.ref nA), .val (.int ks), .val (.int ss), .val (.int iv), .val (.int kk), .val (.int (Int32.ofNat sN)), .val (.long (idf sN)), .second, .val (.int (Int32.ofNat (cn sN)))] [] := by
      intro hor
      refine g_iload C d3_122 (v := kk) rfl (q := 124) rfl ?_
      refine g_iconst C d3_124 (z := (2 : Int32)) rfl (q := 125) rfl ?_
      refine g_icmp_eq C d3_125 (q' := 145) (q := 128) (by decide) (by decide) rfl (fun e2 => ?_) (fun n2 => ?_)
      ·
        exact J h1 S M la A1 T1 Kb (Or.inr (Or.inr (Or.inr ⟨hk0, hor.resolve_left (fun q => q e2), rfl, rfl, rfl⟩)))
      ·
        refine g_aloadN C d3_128 (v := (.ref sA)) rfl rfl (q := 129) rfl ?_
        refine g_iload C d3_129 (v := (Int32.ofNat (cn sN))) rfl (q := 131) rfl ?_
        refine g_iaload C d3_131 (i := (cn sN)) A1.1 hc4 rfl rfl (q := 132) rfl ?_
        refine g_if_le C d3_132 (q' := 145) (q := 135) (by decide) (by decide) rfl (fun nle => ?_) (fun hgt => ?_)
        ·
          exact J h1 S M la A1 T1 Kb (Or.inr (Or.inr (Or.inr ⟨hk0, nle, rfl, rfl, rfl⟩)))
        ·
          refine g_aloadN C d3_135 (v := (.ref sA)) rfl rfl (q := 136) rfl ?_
          refine g_iload C d3_136 (v := (Int32.ofNat (cn sN))) rfl (q := 138) rfl ?_
          refine g_aloadN C d3_138 (v := (.ref sA)) rfl rfl (q := 139) rfl ?_
          refine g_iload C d3_139 (v := (Int32.ofNat (cn sN))) rfl (q := 141) rfl ?_
          refine g_iaload C d3_141 (i := (cn sN)) A1.1 hc4 rfl rfl (q := 142) rfl ?_
          refine g_iconst C d3_142 (z := (1 : Int32)) rfl (q := 143) rfl ?_
          refine g_iadd C d3_143 (q := 144) rfl ?_
          refine g_iastore C d3_144 (i := (cn sN)) A1.1 hc4 rfl A1.2.2.2.2.2.2.1 (q := 145) rfl (fun h3 W3 B3 => ?_)
          exact J h3 _ M la (A1.s W3 hc4) (TW (by simp) W3 T1) (Kb.wr W3 (Or.inl (by simp))) (Or.inr (Or.inr (Or.inl ⟨hk0, n2, hgt, rfl, rfl, rfl⟩)))
    refine g_iload C d3_88 (v := kk) rfl (q := 90) rfl ?_
    refine g_iconst C d3_90 (z := (2 : Int32)) rfl (q := 91) rfl ?_
    refine g_icmp_ne C d3_91 (q' := 122) (q := 94) (by decide) (by decide) rfl (fun n2 => ?_) (fun e2 => ?_)
    ·
      exact J2 (Or.inl n2)
    ·
      refine g_aloadN C d3_94 (v := (.ref sA)) rfl rfl (q := 95) rfl ?_
      refine g_iload C d3_95 (v := (Int32.ofNat (cn sN))) rfl (q := 97) rfl ?_
      refine g_iaload C d3_97 (i := (cn sN)) A1.1 hc4 rfl rfl (q := 98) rfl ?_
      refine g_if_le C d3_98 (q' := 122) (q := 101) (by decide) (by decide) rfl (fun nle => ?_) (fun hgt => ?_)
      ·
        exact J2 (Or.inr nle)
      ·
        refine g_aloadN C d3_101 (v := (.ref mA)) rfl rfl (q := 102) rfl ?_
        refine g_iconst C d3_102 (z := (0 : Int32)) rfl (q := 103) rfl ?_
        refine g_aloadN C d3_103 (v := (.ref mA)) rfl rfl (q := 104) rfl ?_
        refine g_iconst C d3_104 (z := (0 : Int32)) rfl (q := 105) rfl ?_
        refine g_iaload C d3_105 (i := 0) A1.2.1 (by decide) rfl rfl (q := 106) rfl ?_
        refine g_aloadN C d3_106 (v := (.ref sA)) rfl rfl (q := 107) rfl ?_
        refine g_iload C d3_107 (v := (Int32.ofNat (cn sN))) rfl (q := 109) rfl ?_
        refine g_iaload C d3_109 (i := (cn sN)) A1.1 hc4 rfl rfl (q := 110) rfl ?_
        refine g_iadd C d3_110 (q := 111) rfl ?_
        refine g_iconst C d3_111 (z := (1 : Int32)) rfl (q := 112) rfl ?_
        refine g_iadd C d3_112 (q := 113) rfl ?_
        refine g_iastore C d3_113 (i := 0) A1.2.1 (by decide) rfl A1.2.2.2.2.2.2.2.1 (q := 114) rfl (fun h3 W3 B3 => ?_)
        have A3 := A1.m W3 (by decide)
        refine g_aloadN C d3_114 (v := (.ref sA)) rfl rfl (q := 115) rfl ?_
        refine g_iload C d3_115 (v := (Int32.ofNat (cn sN))) rfl (q := 117) rfl ?_
        refine g_iconst C d3_117 (z := (0 : Int32)) rfl (q := 118) rfl ?_
        refine g_iastore C d3_118 (i := (cn sN)) A3.1 hc4 rfl A3.2.2.2.2.2.2.1 (q := 119) rfl (fun h4 W4 B4 => ?_)
        refine g_goto C d3_119 (q := 145) (by decide) (by decide) ?_
        exact J h4 _ _ la (A3.s W4 hc4) (TW (by simp) W4 (TW (by simp) W3 T1)) ((Kb.wr W3 (Or.inl (by simp))).wr W4 (Or.inl (by simp))) (Or.inr (Or.inl ⟨e2, hgt, rfl, rfl, rfl⟩))
  ·
    have J3 : ∀ (h3 : Heap) (M3 : Nat → Int32), AR Z h3 n0 sA mA lA iA nA S M3 la idf cn → TY Z h3 n0 t cA xA cr' ch' n' (cnt + 1) wr' o' → Keep h0 h3 [t, cA, xA, sA, mA, lA] → M3 = (if ¬ M 3 = 0 ∧ ¬ la < idf sN then upd M 2 0 else M) → Go p l e rmOp s m #[(.ref t), (.ref sA), (.ref mA), (.ref lA), (.ref iA), (.ref nA), (.int ks), (.int ss), (.int iv)] below meth c (FinN s below rmOp n0 (fun v h => v = none ∧ Keep h0 h [t, cA, xA, sA, mA, lA] ∧ ∃ cr' ch' n' wr' o' S' M' la', TY Z h n0 t cA xA cr' ch' n' (cnt + 1) wr' o' ∧ AR Z h n0 sA mA lA iA nA S' M' la' idf cn ∧ IN idf cn cr' ch' n' (cnt + 1) wr' o' S' M' la' ∧ n' ≤ n + 1)) n0 h3 (0 + rm0.cells + rmAdd.cells) (0 + rm0.slots + rmAdd.slots) 71 #[.val (.ref t), .val (.ref sA), .val (.ref mA), .val (.ref lA), .val (.ref iA), .val (.ref nA), .val (.int ks), .val (.int ss), .val (.int iv), .val (.int kk), .val (.int (Int32.ofNat sN)), .val (.long (idf sN)), .second, .val (.int (Int32.ofNat (cn sN)))] [] := by
      intro h3 M3 A3 T3 K3 hM
      refine g_aloadN C d3_71 (v := (.ref lA)) rfl rfl (q := 72) rfl ?_
      refine g_iconst C d3_72 (z := (0 : Int32)) rfl (q := 73) rfl ?_
      refine g_lload C d3_73 (v := (idf sN)) rfl (q := 75) rfl ?_
      refine g_lastore C d3_75 (i := 0) A3.2.2.1 (by decide) rfl A3.2.2.2.2.2.2.2.2 (q := 76) rfl (fun h4 W4 B4 => ?_)
      have A4 := A3.l W4
      refine g_aloadN C d3_76 (v := (.ref mA)) rfl rfl (q := 77) rfl ?_
      refine g_iconst C d3_77 (z := (3 : Int32)) rfl (q := 78) rfl ?_
      refine g_iconst C d3_78 (z := (1 : Int32)) rfl (q := 79) rfl ?_
      refine g_iastore C d3_79 (i := 3) A4.2.1 (by decide) rfl A4.2.2.2.2.2.2.2.1 (q := 80) rfl (fun h5 W5 B5 => ?_)
      have A5 := A4.m W5 (by decide)
      refine g_aloadN C d3_80 (v := (.ref sA)) rfl rfl (q := 81) rfl ?_
      refine g_iload C d3_81 (v := (Int32.ofNat (cn sN))) rfl (q := 83) rfl ?_
      refine g_iconst C d3_83 (z := (1 : Int32)) rfl (q := 84) rfl ?_
      refine g_iastore C d3_84 (i := (cn sN)) A5.1 hc4 rfl A5.2.2.2.2.2.2.1 (q := 85) rfl (fun h6 W6 B6 => ?_)
      refine g_goto C d3_85 (q := 145) (by decide) (by decide) ?_
      exact J h6 _ _ (idf sN) (A5.s W6 hc4) (TW (by simp) W6 (TW (by simp) W5 (TW (by simp) W4 T3))) (((K3.wr W4 (Or.inl (by simp))).wr W5 (Or.inl (by simp))).wr W6 (Or.inl (by simp))) (Or.inl ⟨ek0, rfl, rfl, by rw [hM]⟩)
    refine g_aloadN C d3_52 (v := (.ref mA)) rfl rfl (q := 53) rfl ?_
    refine g_iconst C d3_53 (z := (3 : Int32)) rfl (q := 54) rfl ?_
    refine g_iaload C d3_54 (i := 3) A1.2.1 (by decide) rfl rfl (q := 55) rfl ?_
    refine g_if_eq C d3_55 (q' := 71) (q := 58) (by decide) (by decide) rfl (fun z3 => ?_) (fun n3 => ?_)
    ·
      exact J3 h1 M A1 T1 Kb (by rw [if_neg fun q => q.1 z3])
    ·
      refine g_lload C d3_58 (v := (idf sN)) rfl (q := 60) rfl ?_
      refine g_aloadN C d3_60 (v := (.ref lA)) rfl rfl (q := 61) rfl ?_
      refine g_iconst C d3_61 (z := (0 : Int32)) rfl (q := 62) rfl ?_
      refine g_laload C d3_62 (i := 0) A1.2.2.1 (by decide) rfl rfl (q := 63) rfl ?_
      refine g_lcmp C d3_63 (q := 64) rfl ?_
      refine g_if_gt C d3_64 (q' := 71) (q := 67) (by decide) (by decide) rfl (fun hgt => ?_) (fun nle => ?_)
      ·
        exact J3 h1 M A1 T1 Kb (by rw [if_neg fun q => q.2 ((cmpL_gt _ _).mp hgt)])
      ·
        refine g_aloadN C d3_67 (v := (.ref mA)) rfl rfl (q := 68) rfl ?_
        refine g_iconst C d3_68 (z := (2 : Int32)) rfl (q := 69) rfl ?_
        refine g_iconst C d3_69 (z := (0 : Int32)) rfl (q := 70) rfl ?_
        refine g_iastore C d3_70 (i := 2) A1.2.1 (by decide) rfl A1.2.2.2.2.2.2.2.1 (q := 71) rfl (fun h3 W3 B3 => ?_)
        exact J3 h3 _ (A1.m W3 (by decide)) (TW (by simp) W3 T1) (Kb.wr W3 (Or.inl (by simp))) (by rw [if_pos ⟨n3, fun q => nle ((cmpL_gt _ _).mpr q)⟩])
theorem nn_msb (x : Int64) : ¬ x < 0 ↔ x.toBitVec.msb = false := by
  rw [Int64.lt_iff_toInt_lt]
  show ¬ (x.toBitVec.toInt < (0 : Int64).toInt) ↔ _
  have e0 : (0 : Int64).toInt = 0 := rfl
  rw [e0, BitVec.msb_eq_toInt]; simp
theorem xor_nn {x c : Int64} (hx : ¬ x < 0) (hc : ¬ c < 0) : ¬ x ^^^ c < 0 := by
  rw [nn_msb] at hx hc ⊢
  rw [Int64.toBitVec_xor, BitVec.msb_xor, hx, hc]; rfl
theorem xor_ne {x c d : Int64} (h : ¬ c = d) : ¬ x ^^^ c = x ^^^ d := fun e => h (by
  have h2 := congrArg (fun z => (x ^^^ z)) e
  simpa [← Int64.xor_assoc] using h2)
def yc (x y : Int64) : Nat := if y = x then 0 else if y = x ^^^ 1 then 1 else if y = x ^^^ 2 then 2 else 3
def idF (x y : Int64) : Nat → Int64 := fun j => if j = 0 then x else if j = 1 then x ^^^ 1 else if j = 2 then x ^^^ 2 else y
def cnF (x y : Int64) : Nat → Nat := fun j => if j = 3 then yc x y else j
theorem yc_lt (x y : Int64) : yc x y < 4 := by unfold yc; split; omega; split; omega; split <;> omega
theorem four {s : Nat} (h : s < 4) : s = 0 ∨ s = 1 ∨ s = 2 ∨ s = 3 := by omega
theorem idF_nn {x y : Int64} (hx : ¬ x < 0) (hy : ¬ y < 0) : ∀ s, s < 4 → ¬ idF x y s < 0 := fun s hs => by
  rcases four hs with rfl | rfl | rfl | rfl
  · exact hx
  · exact xor_nn hx (by decide)
  · exact xor_nn hx (by decide)
  · exact hy
theorem cnF_lt (x y : Int64) : ∀ s, s < 4 → cnF x y s < 4 := fun s hs => by
  unfold cnF; split
  · exact yc_lt x y
  · exact hs
theorem cnF_iff (x y : Int64) : ∀ s t, s < 4 → t < 4 → (idF x y s = idF x y t ↔ cnF x y s = cnF x y t) := by
  have d01 : ¬ x = x ^^^ 1 := fun e => xor_ne (x := x) (c := 0) (d := 1) (by decide) (by rw [Int64.xor_zero]; exact e)
  have d02 : ¬ x = x ^^^ 2 := fun e => xor_ne (x := x) (c := 0) (d := 2) (by decide) (by rw [Int64.xor_zero]; exact e)
  have d12 : ¬ x ^^^ 1 = x ^^^ 2 := xor_ne (by decide)
  intro s t hs ht
  by_cases y0 : y = x
  · subst y0
    rcases four hs with rfl | rfl | rfl | rfl <;> rcases four ht with rfl | rfl | rfl | rfl <;> simp [idF, cnF, yc, d01, d02, d12, Ne.symm d01, Ne.symm d02, Ne.symm d12]
  · by_cases y1 : y = x ^^^ 1
    · subst y1
      rcases four hs with rfl | rfl | rfl | rfl <;> rcases four ht with rfl | rfl | rfl | rfl <;> simp [idF, cnF, yc, d01, d02, d12, Ne.symm d01, Ne.symm d02, Ne.symm d12]
    · by_cases y2 : y = x ^^^ 2
      · subst y2
        rcases four hs with rfl | rfl | rfl | rfl <;> rcases four ht with rfl | rfl | rfl | rfl <;> simp [idF, cnF, yc, d01, d02, d12, Ne.symm d01, Ne.symm d02, Ne.symm d12]
      · rcases four hs with rfl | rfl | rfl | rfl <;> rcases four ht with rfl | rfl | rfl | rfl <;> simp [idF, cnF, yc, y0, y1, y2, d01, d02, d12, Ne.symm d01, Ne.symm d02, Ne.symm d12, Ne.symm y0, Ne.symm y1, Ne.symm y2]
set_option maxRecDepth 65536 in
set_option maxHeartbeats 40000000 in
theorem c_law (l : Launch) (Z : State) (a0 : Array Value) (kc ku kd ka : Addr) (G : Gl Z a0 kc ku kd ka) (ks ss : Int32) (px py : Int64) (h0 : Heap) (n0 : Nat) (hn0 : Z.heap.size ≤ n0) (Z0 : n0 ≤ h0.size) (X0 : Ext Z.heap h0) :
    Ctr l Z Jvm.Pilot.@@N@@.x code maxLocals ret room_1 #[(.int ks), (.int ss), (.long px), (.long py)] h0 n0 (fun v h => v = some (.int 1)) := by
  have hw := G.1
  refine Ctr.of (n1 := n0) #[.val (.int ks), .val (.int ss), .val (.long px), .second, .val (.long py), .second, .unset, .unset, .unset, .unset, .unset, .unset, .unset, .unset, .unset, .unset, .unset, .unset] (plainFor_of_name pn2) (fun m => by first | (simp [entryFrame, mkF, argsToLocals, Value.category, maxLocals]; done) | rfl) ?_
  intro p e s m below meth c C
  have C : Cx p s m meth c Z "com/example/nuthatch/nuthatch/store/JournalTallyWritesPinLaw" "law" code 18 (some .boolean) := C
  have hx := and_max px
  have hy0 := and_max py
  refine g_lloadN C at_0 (v := px) rfl (q := 1) rfl ?_
  refine g_ldc2Long C at_1 (wd0 hw) (q := 4) rfl ?_
  refine g_land C at_4 (q := 5) rfl ?_
  refine g_lstore C at_5 (L' := #[.val (.int ks), .val (.int ss), .val (.long px), .second, .val (.long py), .second, .val (.long (px &&& (9223372036854775807 : Int64))), .second, .unset, .unset, .unset, .unset, .unset, .unset, .unset, .unset, .unset, .unset]) rfl (q := 7) rfl ?_
  refine g_lload C at_7 (v := py) rfl (q := 9) rfl ?_
  refine g_ldc2Long C at_9 (wd0 hw) (q := 12) rfl ?_
  refine g_land C at_12 (q := 13) rfl ?_
  refine g_lstore C at_13 (L' := #[.val (.int ks), .val (.int ss), .val (.long px), .second, .val (.long py), .second, .val (.long (px &&& (9223372036854775807 : Int64))), .second, .val (.long (py &&& (9223372036854775807 : Int64))), .second, .unset, .unset, .unset, .unset, .unset, .unset, .unset, .unset]) rfl (q := 15) rfl ?_
  refine g_iconst C at_15 (z := (4 : Int32)) rfl (q := 16) rfl ?_
  revert hx hy0
  generalize (px &&& (9223372036854775807 : Int64)) = x
  generalize (py &&& (9223372036854775807 : Int64)) = y
  intro hx hy0
  refine g_newarray C at_16 (wd1 hw) (by decide) (cap := 4) (by decide) (by decide) (by decide) (by decide) (q := 18) rfl (fun iA h_iA kaiA qaiA EaiA AaiA => ?_)
  have F_iA : Av Z h_iA iA .long 4 (fun j => .long ((fun _ => 0) j)) := Av.new AaiA (by decide)
  have g_iA : n0 ≤ iA := by rw [qaiA]; exact Z0
  have X_iA := Ext.tr X0 EaiA
  have Z_iA : n0 ≤ h_iA.size := Nat.le_trans Z0 EaiA.1
  refine g_dup C at_18 rfl (q := 19) rfl ?_
  refine g_iconst C at_19 (z := (0 : Int32)) rfl (q := 20) rfl ?_
  refine g_lload C at_20 (v := x) rfl (q := 22) rfl ?_
  refine g_lastore C at_22 (i := 0) F_iA (by decide) rfl g_iA (q := 23) rfl (fun hs1 Ws1 Fs1 => ?_)
  have F_iA := Fs1
  have Xs1 := Ext.wr X_iA Ws1 (Nat.le_trans hn0 g_iA)
  have Zs1 : n0 ≤ hs1.size := by rw [Ws1.size]; exact Z_iA
  refine g_dup C at_23 rfl (q := 24) rfl ?_
  refine g_iconst C at_24 (z := (1 : Int32)) rfl (q := 25) rfl ?_
  refine g_lload C at_25 (v := x) rfl (q := 27) rfl ?_
  refine g_lconst C at_27 (z := (1 : Int64)) rfl (q := 28) rfl ?_
  refine g_lxor C at_28 (q := 29) rfl ?_
  refine g_lastore C at_29 (i := 1) F_iA (by decide) rfl g_iA (q := 30) rfl (fun hs2 Ws2 Fs2 => ?_)
  have F_iA := Fs2
  have Xs2 := Ext.wr Xs1 Ws2 (Nat.le_trans hn0 g_iA)
  have Zs2 : n0 ≤ hs2.size := by rw [Ws2.size]; exact Zs1
  refine g_dup C at_30 rfl (q := 31) rfl ?_
  refine g_iconst C at_31 (z := (2 : Int32)) rfl (q := 32) rfl ?_
  refine g_lload C at_32 (v := x) rfl (q := 34) rfl ?_
  refine g_ldc2Long C at_34 (wd2 hw) (q := 37) rfl ?_
  refine g_lxor C at_37 (q := 38) rfl ?_
  refine g_lastore C at_38 (i := 2) F_iA (by decide) rfl g_iA (q := 39) rfl (fun hs3 Ws3 Fs3 => ?_)
  have F_iA := Fs3
  have Xs3 := Ext.wr Xs2 Ws3 (Nat.le_trans hn0 g_iA)
  have Zs3 : n0 ≤ hs3.size := by rw [Ws3.size]; exact Zs2
  refine g_dup C at_39 rfl (q := 40) rfl ?_
  refine g_iconst C at_40 (z := (3 : Int32)) rfl (q := 41) rfl ?_
  refine g_lload C at_41 (v := y) rfl (q := 43) rfl ?_
  refine g_lastore C at_43 (i := 3) F_iA (by decide) rfl g_iA (q := 44) rfl (fun hs4 Ws4 Fs4 => ?_)
  have F_iA := Fs4
  have Xs4 := Ext.wr Xs3 Ws4 (Nat.le_trans hn0 g_iA)
  have Zs4 : n0 ≤ hs4.size := by rw [Ws4.size]; exact Zs3
  have F_iA : Av Z hs4 iA .long 4 (fun j => .long (idF x y j)) := F_iA.congr (fun j hj => by rcases four hj with rfl | rfl | rfl | rfl <;> rfl)
  refine g_astore C at_44 rfl (L' := #[.val (.int ks), .val (.int ss), .val (.long px), .second, .val (.long py), .second, .val (.long x), .second, .val (.long y), .second, .val (.ref iA), .unset, .unset, .unset, .unset, .unset, .unset, .unset]) rfl (q := 46) rfl ?_
  refine g_lload C at_46 (v := y) rfl (q := 48) rfl ?_
  refine g_lload C at_48 (v := x) rfl (q := 50) rfl ?_
  refine g_lcmp C at_50 (q := 51) rfl ?_
  refine Go.joinR (pc' := 89) (fun v : Int32 => v = Int32.ofNat (yc x y)) (fun _ => #[.val (.int ks), .val (.int ss), .val (.long px), .second, .val (.long py), .second, .val (.long x), .second, .val (.long y), .second, .val (.ref iA), .unset, .unset, .unset, .unset, .unset, .unset, .unset]) (fun v => [.int v]) ?_ (fun J => ?_)
  ·
    intro v hv
    refine g_istore C at_89 (L' := #[.val (.int ks), .val (.int ss), .val (.long px), .second, .val (.long py), .second, .val (.long x), .second, .val (.long y), .second, .val (.ref iA), .val (.int v), .unset, .unset, .unset, .unset, .unset, .unset]) rfl (q := 91) rfl ?_
    refine g_iconst C at_91 (z := (4 : Int32)) rfl (q := 92) rfl ?_
    refine g_newarray C at_92 (wd3 hw) (by decide) (cap := 4) (by decide) (by decide) (by decide) (by decide) (q := 94) rfl (fun nA h_nA kanA qanA EanA AanA => ?_)
    have F_nA : Av Z h_nA nA .int 4 (fun j => .int ((fun _ => 0) j)) := Av.new AanA (by decide)
    have n_iA_nA : iA ≠ nA := by rw [qanA]; exact Nat.ne_of_lt F_iA.lt
    have F_iA := F_iA.ext EanA
    have g_nA : n0 ≤ nA := by rw [qanA]; exact Zs4
    have X_nA := Ext.tr Xs4 EanA
    have Z_nA : n0 ≤ h_nA.size := Nat.le_trans Zs4 EanA.1
    refine g_dup C at_94 rfl (q := 95) rfl ?_
    refine g_iconst C at_95 (z := (0 : Int32)) rfl (q := 96) rfl ?_
    refine g_iconst C at_96 (z := (0 : Int32)) rfl (q := 97) rfl ?_
    refine g_iastore C at_97 (i := 0) F_nA (by decide) rfl g_nA (q := 98) rfl (fun hs5 Ws5 Fs5 => ?_)
    have F_iA := F_iA.other Ws5 n_iA_nA
    have F_nA := Fs5
    have Xs5 := Ext.wr X_nA Ws5 (Nat.le_trans hn0 g_nA)
    have Zs5 : n0 ≤ hs5.size := by rw [Ws5.size]; exact Z_nA
    refine g_dup C at_98 rfl (q := 99) rfl ?_
    refine g_iconst C at_99 (z := (1 : Int32)) rfl (q := 100) rfl ?_
    refine g_iconst C at_100 (z := (1 : Int32)) rfl (q := 101) rfl ?_
    refine g_iastore C at_101 (i := 1) F_nA (by decide) rfl g_nA (q := 102) rfl (fun hs6 Ws6 Fs6 => ?_)
    have F_iA := F_iA.other Ws6 n_iA_nA
    have F_nA := Fs6
    have Xs6 := Ext.wr Xs5 Ws6 (Nat.le_trans hn0 g_nA)
    have Zs6 : n0 ≤ hs6.size := by rw [Ws6.size]; exact Zs5
    refine g_dup C at_102 rfl (q := 103) rfl ?_
    refine g_iconst C at_103 (z := (2 : Int32)) rfl (q := 104) rfl ?_
    refine g_iconst C at_104 (z := (2 : Int32)) rfl (q := 105) rfl ?_
    refine g_iastore C at_105 (i := 2) F_nA (by decide) rfl g_nA (q := 106) rfl (fun hs7 Ws7 Fs7 => ?_)
    have F_iA := F_iA.other Ws7 n_iA_nA
    have F_nA := Fs7
    have Xs7 := Ext.wr Xs6 Ws7 (Nat.le_trans hn0 g_nA)
    have Zs7 : n0 ≤ hs7.size := by rw [Ws7.size]; exact Zs6
    refine g_dup C at_106 rfl (q := 107) rfl ?_
    refine g_iconst C at_107 (z := (3 : Int32)) rfl (q := 108) rfl ?_
    refine g_iload C at_108 (v := v) rfl (q := 110) rfl ?_
    refine g_iastore C at_110 (i := 3) F_nA (by decide) rfl g_nA (q := 111) rfl (fun hs8 Ws8 Fs8 => ?_)
    have F_iA := F_iA.other Ws8 n_iA_nA
    have F_nA := Fs8
    have Xs8 := Ext.wr Xs7 Ws8 (Nat.le_trans hn0 g_nA)
    have Zs8 : n0 ≤ hs8.size := by rw [Ws8.size]; exact Zs7
    have F_nA : Av Z hs8 nA .int 4 (fun j => .int (Int32.ofNat (cnF x y j))) := F_nA.congr (fun j hj => by rcases four hj with rfl | rfl | rfl | rfl <;> first | rfl | (simp [cnF, hv]))
    refine g_astore C at_111 rfl (L' := #[.val (.int ks), .val (.int ss), .val (.long px), .second, .val (.long py), .second, .val (.long x), .second, .val (.long y), .second, .val (.ref iA), .val (.int v), .val (.ref nA), .unset, .unset, .unset, .unset, .unset]) rfl (q := 113) rfl ?_
    refine g_iconst C at_113 (z := (4 : Int32)) rfl (q := 114) rfl ?_
    refine g_newarray C at_114 (wd3 hw) (by decide) (cap := 4) (by decide) (by decide) (by decide) (by decide) (q := 116) rfl (fun sA h_sA kasA qasA EasA AasA => ?_)
    have F_sA : Av Z h_sA sA .int 4 (fun j => .int ((fun _ => 0) j)) := Av.new AasA (by decide)
    have n_iA_sA : iA ≠ sA := by rw [qasA]; exact Nat.ne_of_lt F_iA.lt
    have F_iA := F_iA.ext EasA
    have n_nA_sA : nA ≠ sA := by rw [qasA]; exact Nat.ne_of_lt F_nA.lt
    have F_nA := F_nA.ext EasA
    have g_sA : n0 ≤ sA := by rw [qasA]; exact Zs8
    have X_sA := Ext.tr Xs8 EasA
    have Z_sA : n0 ≤ h_sA.size := Nat.le_trans Zs8 EasA.1
    refine g_astore C at_116 rfl (L' := #[.val (.int ks), .val (.int ss), .val (.long px), .second, .val (.long py), .second, .val (.long x), .second, .val (.long y), .second, .val (.ref iA), .val (.int v), .val (.ref nA), .val (.ref sA), .unset, .unset, .unset, .unset]) rfl (q := 118) rfl ?_
    refine g_iconst C at_118 (z := (4 : Int32)) rfl (q := 119) rfl ?_
    refine g_newarray C at_119 (wd3 hw) (by decide) (cap := 4) (by decide) (by decide) (by decide) (by decide) (q := 121) rfl (fun mA h_mA kamA qamA EamA AamA => ?_)
    have F_mA : Av Z h_mA mA .int 4 (fun j => .int ((fun _ => 0) j)) := Av.new AamA (by decide)
    have n_iA_mA : iA ≠ mA := by rw [qamA]; exact Nat.ne_of_lt F_iA.lt
    have F_iA := F_iA.ext EamA
    have n_nA_mA : nA ≠ mA := by rw [qamA]; exact Nat.ne_of_lt F_nA.lt
    have F_nA := F_nA.ext EamA
    have n_sA_mA : sA ≠ mA := by rw [qamA]; exact Nat.ne_of_lt F_sA.lt
    have F_sA := F_sA.ext EamA
    have g_mA : n0 ≤ mA := by rw [qamA]; exact Z_sA
    have X_mA := Ext.tr X_sA EamA
    have Z_mA : n0 ≤ h_mA.size := Nat.le_trans Z_sA EamA.1
    refine g_astore C at_121 rfl (L' := #[.val (.int ks), .val (.int ss), .val (.long px), .second, .val (.long py), .second, .val (.long x), .second, .val (.long y), .second, .val (.ref iA), .val (.int v), .val (.ref nA), .val (.ref sA), .val (.ref mA), .unset, .unset, .unset]) rfl (q := 123) rfl ?_
    refine g_aload C at_123 (v := (.ref mA)) rfl rfl (q := 125) rfl ?_
    refine g_iconst C at_125 (z := (2 : Int32)) rfl (q := 126) rfl ?_
    refine g_iconst C at_126 (z := (1 : Int32)) rfl (q := 127) rfl ?_
    refine g_iastore C at_127 (i := 2) F_mA (by decide) rfl g_mA (q := 128) rfl (fun hs9 Ws9 Fs9 => ?_)
    have F_iA := F_iA.other Ws9 n_iA_mA
    have F_nA := F_nA.other Ws9 n_nA_mA
    have F_sA := F_sA.other Ws9 n_sA_mA
    have F_mA := Fs9
    have Xs9 := Ext.wr X_mA Ws9 (Nat.le_trans hn0 g_mA)
    have Zs9 : n0 ≤ hs9.size := by rw [Ws9.size]; exact Z_mA
    have F_mA : Av Z hs9 mA .int 4 (fun j => .int (upd (fun _ => 0) 2 1 j)) := F_mA.updI (f := fun _ => 0)
    refine g_iconst C at_128 (z := (1 : Int32)) rfl (q := 129) rfl ?_
    refine g_newarray C at_129 (wd1 hw) (by decide) (cap := 1) (by decide) (by decide) (by decide) (by decide) (q := 131) rfl (fun lA h_lA kalA qalA EalA AalA => ?_)
    have F_lA : Av Z h_lA lA .long 1 (fun j => .long ((fun _ => 0) j)) := Av.new AalA (by decide)
    have n_iA_lA : iA ≠ lA := by rw [qalA]; exact Nat.ne_of_lt F_iA.lt
    have F_iA := F_iA.ext EalA
    have n_nA_lA : nA ≠ lA := by rw [qalA]; exact Nat.ne_of_lt F_nA.lt
    have F_nA := F_nA.ext EalA
    have n_sA_lA : sA ≠ lA := by rw [qalA]; exact Nat.ne_of_lt F_sA.lt
    have F_sA := F_sA.ext EalA
    have n_mA_lA : mA ≠ lA := by rw [qalA]; exact Nat.ne_of_lt F_mA.lt
    have F_mA := F_mA.ext EalA
    have g_lA : n0 ≤ lA := by rw [qalA]; exact Zs9
    have X_lA := Ext.tr Xs9 EalA
    have Z_lA : n0 ≤ h_lA.size := Nat.le_trans Zs9 EalA.1
    refine g_astore C at_131 rfl (L' := #[.val (.int ks), .val (.int ss), .val (.long px), .second, .val (.long py), .second, .val (.long x), .second, .val (.long y), .second, .val (.ref iA), .val (.int v), .val (.ref nA), .val (.ref sA), .val (.ref mA), .val (.ref lA), .unset, .unset]) rfl (q := 133) rfl ?_
    refine g_new C at_133 (wd4 hw) (wd5 hw) (wd6 hw) (by decide) (by decide) (q := 136) rfl (fun t h1 q1 E1 A1 D1 => ?_)
    refine g_dup C at_136 rfl (q := 137) rfl ?_
    have JF1 : JF Z h1 t .null .null (.int 0) (.int 0) (.int 0) (.int 0) := ⟨A1, D1 (Or.inl (wd14 hw)) (ty := (.array .long)) (by decide), D1 (Or.inl (wd16 hw)) (ty := (.array .int)) (by decide), D1 (Or.inl (wd39 hw)) (ty := .int) (by decide), D1 (Or.inl (wd44 hw)) (ty := .int) (by decide), D1 (Or.inl (wd42 hw)) (ty := .int) (by decide), D1 (Or.inl (wd18 hw)) (ty := .boolean) (by decide)⟩
    refine g_callI C (W := 1) (argsL := []) (rest := [(.ref t)]) (a := t) at_137 rfl (wd7 hw) (wd8 hw) (wd9 hw) (by decide) (Ctr.bk (c_tinit l Z a0 kc ku kd ka G t .null .null h1 n0 (Nat.le_trans Z_lA E1.1) (by rw [q1]; exact Z_lA) A1.lt JF1) C (wd9 hw) (wd6 hw) (by decide) (by decide)) (by decide) (by decide) rfl (lenOf pd5 rfl) rfl rfl (q := 140) rfl (fun v2 h2 hQ2 => ?_)
    obtain ⟨rfl, K2, cA, xA, gc, gx, T0⟩ := hQ2
    refine ⟨[(.ref t)], rfl, ?_⟩
    have X2 : Ext Z.heap h2 := Ext.keep (Ext.tr X_lA E1) K2 (fun x hx => by cases List.mem_singleton.mp hx; rw [q1]; exact (X_lA).1)
    have ap1 : ∀ y ∈ [sA, mA, lA, iA, nA], y < h_lA.size := by
      intro y hy
      simp only [List.mem_cons, List.not_mem_nil, or_false] at hy
      rcases hy with rfl | rfl | rfl | rfl | rfl
      · exact F_sA.lt
      · exact F_mA.lt
      · exact F_lA.lt
      · exact F_iA.lt
      · exact F_nA.lt
    have ap2 : ∀ x ∈ [t, cA, xA], h_lA.size ≤ x := by
      intro y hy
      simp only [List.mem_cons, List.not_mem_nil, or_false] at hy
      rcases hy with rfl | rfl | rfl
      · rw [q1]; exact Nat.le_refl _
      · exact Nat.le_trans E1.1 gc
      · exact Nat.le_trans E1.1 gx
    have D : ∀ x ∈ [sA, mA, lA, iA, nA], x ∉ [t, cA, xA] := fun x hx hy => own_apart ap2 ap1 x hy hx
    have AR0 : AR Z h2 n0 sA mA lA iA nA (fun _ => 0) (upd (fun _ => 0) 2 1) 0 (idF x y) (cnF x y) :=
      AR.keep (AR.ext ⟨F_sA, F_mA, F_lA, F_iA, F_nA, ⟨n_sA_mA, n_sA_lA, n_mA_lA, n_iA_sA, n_iA_mA, n_iA_lA, n_nA_sA, n_nA_mA, n_nA_lA⟩, g_sA, g_mA, g_lA⟩ E1) K2 (fun x hx hm => D x hx (by cases List.mem_singleton.mp hm; simp))
    have IN0 : IN (idF x y) (cnF x y) (fun _ => 0) (fun _ => 0) 0 0 0 true (fun _ => 0) (upd (fun _ => 0) 2 1) 0 := ⟨⟨fun _ i j _ hj => absurd hj (by omega), fun i hi => absurd hi (by omega)⟩, rfl, rfl, fun _ => ⟨rfl, ⟨fun _ => rfl, fun _ => rfl⟩, fun h => absurd h (by omega), fun s hs => ⟨fun i hi => absurd hi (by omega), fun _ => rfl⟩⟩⟩
    refine g_astore C at_140 rfl (L' := #[.val (.int ks), .val (.int ss), .val (.long px), .second, .val (.long py), .second, .val (.long x), .second, .val (.long y), .second, .val (.ref iA), .val (.int v), .val (.ref nA), .val (.ref sA), .val (.ref mA), .val (.ref lA), .val (.ref t), .unset]) rfl (q := 142) rfl ?_
    refine g_aload C at_142 (v := (.ref t)) rfl rfl (q := 144) rfl ?_
    refine g_aload C at_144 (v := (.ref sA)) rfl rfl (q := 146) rfl ?_
    refine g_aload C at_146 (v := (.ref mA)) rfl rfl (q := 148) rfl ?_
    refine g_aload C at_148 (v := (.ref lA)) rfl rfl (q := 150) rfl ?_
    refine g_aload C at_150 (v := (.ref iA)) rfl rfl (q := 152) rfl ?_
    refine g_aload C at_152 (v := (.ref nA)) rfl rfl (q := 154) rfl ?_
    refine g_iloadN C at_154 (v := ks) rfl (q := 155) rfl ?_
    refine g_iloadN C at_155 (v := ss) rfl (q := 156) rfl ?_
    refine g_iconst C at_156 (z := (0 : Int32)) rfl (q := 157) rfl ?_
    refine g_callS C (W := 0) (argsL := [(.ref t), (.ref sA), (.ref mA), (.ref lA), (.ref iA), (.ref nA), (.int ks), (.int ss), (.int (0 : Int32))]) (rest := []) at_157 (wd19 hw) (wd20 hw) (wd21 hw) (wd22 hw) (by decide) (Ctr.bk (c_op l Z a0 kc ku kd ka G t cA xA sA mA lA iA nA (fun _ => 0) (fun _ => 0) 0 0 0 true (fun _ => 0) (upd (fun _ => 0) 2 1) 0 (idF x y) (cnF x y) h2 n0 T0 AR0 IN0 X2 (by omega) (idF_nn hx hy0) (cnF_lt x y) (cnF_iff x y) D _ _ _) C (wd22 hw) (wd21 hw) (by decide) (by decide)) (by decide) (by decide) rfl (lenOf pd6 rfl) rfl rfl (q := 160) rfl (fun vo1 ho1 hQo1 => ?_)
    obtain ⟨rfl, Ko1, cr1, ch1, n1, wr1, o1, S1, M1, la1, T1, AR1, IN1, bn1⟩ := hQo1
    refine ⟨[], rfl, ?_⟩
    have Xo1 := Ext.keep X2 Ko1 (fun x hx => by
      simp only [List.mem_cons, List.not_mem_nil, or_false] at hx
      obtain ⟨-, -, -, u1, u2, u3, -⟩ := T0
      obtain ⟨-, -, -, -, -, -, u4, u5, u6⟩ := AR0
      rcases hx with rfl | rfl | rfl | rfl | rfl | rfl <;> omega)
    refine g_aload C at_160 (v := (.ref t)) rfl rfl (q := 162) rfl ?_
    refine g_aload C at_162 (v := (.ref sA)) rfl rfl (q := 164) rfl ?_
    refine g_aload C at_164 (v := (.ref mA)) rfl rfl (q := 166) rfl ?_
    refine g_aload C at_166 (v := (.ref lA)) rfl rfl (q := 168) rfl ?_
    refine g_aload C at_168 (v := (.ref iA)) rfl rfl (q := 170) rfl ?_
    refine g_aload C at_170 (v := (.ref nA)) rfl rfl (q := 172) rfl ?_
    refine g_iloadN C at_172 (v := ks) rfl (q := 173) rfl ?_
    refine g_iloadN C at_173 (v := ss) rfl (q := 174) rfl ?_
    refine g_iconst C at_174 (z := (1 : Int32)) rfl (q := 175) rfl ?_
    refine g_callS C (W := 0) (argsL := [(.ref t), (.ref sA), (.ref mA), (.ref lA), (.ref iA), (.ref nA), (.int ks), (.int ss), (.int (1 : Int32))]) (rest := []) at_175 (wd19 hw) (wd20 hw) (wd21 hw) (wd22 hw) (by decide) (Ctr.bk (c_op l Z a0 kc ku kd ka G t cA xA sA mA lA iA nA cr1 ch1 n1 (0 + 1) wr1 o1 S1 M1 la1 (idF x y) (cnF x y) ho1 n0 T1 AR1 IN1 Xo1 (by omega) (idF_nn hx hy0) (cnF_lt x y) (cnF_iff x y) D _ _ _) C (wd22 hw) (wd21 hw) (by decide) (by decide)) (by decide) (by decide) rfl (lenOf pd6 rfl) rfl rfl (q := 178) rfl (fun vo2 ho2 hQo2 => ?_)
    obtain ⟨rfl, Ko2, cr2, ch2, n2, wr2, o2, S2, M2, la2, T2, AR2, IN2, bn2⟩ := hQo2
    refine ⟨[], rfl, ?_⟩
    have Xo2 := Ext.keep Xo1 Ko2 (fun x hx => by
      simp only [List.mem_cons, List.not_mem_nil, or_false] at hx
      obtain ⟨-, -, -, u1, u2, u3, -⟩ := T1
      obtain ⟨-, -, -, -, -, -, u4, u5, u6⟩ := AR1
      rcases hx with rfl | rfl | rfl | rfl | rfl | rfl <;> omega)
    refine g_aload C at_178 (v := (.ref t)) rfl rfl (q := 180) rfl ?_
    refine g_aload C at_180 (v := (.ref sA)) rfl rfl (q := 182) rfl ?_
    refine g_aload C at_182 (v := (.ref mA)) rfl rfl (q := 184) rfl ?_
    refine g_aload C at_184 (v := (.ref lA)) rfl rfl (q := 186) rfl ?_
    refine g_aload C at_186 (v := (.ref iA)) rfl rfl (q := 188) rfl ?_
    refine g_aload C at_188 (v := (.ref nA)) rfl rfl (q := 190) rfl ?_
    refine g_iloadN C at_190 (v := ks) rfl (q := 191) rfl ?_
    refine g_iloadN C at_191 (v := ss) rfl (q := 192) rfl ?_
    refine g_iconst C at_192 (z := (2 : Int32)) rfl (q := 193) rfl ?_
    refine g_callS C (W := 0) (argsL := [(.ref t), (.ref sA), (.ref mA), (.ref lA), (.ref iA), (.ref nA), (.int ks), (.int ss), (.int (2 : Int32))]) (rest := []) at_193 (wd19 hw) (wd20 hw) (wd21 hw) (wd22 hw) (by decide) (Ctr.bk (c_op l Z a0 kc ku kd ka G t cA xA sA mA lA iA nA cr2 ch2 n2 ((0 + 1) + 1) wr2 o2 S2 M2 la2 (idF x y) (cnF x y) ho2 n0 T2 AR2 IN2 Xo2 (by omega) (idF_nn hx hy0) (cnF_lt x y) (cnF_iff x y) D _ _ _) C (wd22 hw) (wd21 hw) (by decide) (by decide)) (by decide) (by decide) rfl (lenOf pd6 rfl) rfl rfl (q := 196) rfl (fun vo3 ho3 hQo3 => ?_)
    obtain ⟨rfl, Ko3, cr3, ch3, n3, wr3, o3, S3, M3, la3, T3, AR3, IN3, bn3⟩ := hQo3
    refine ⟨[], rfl, ?_⟩
    have Xo3 := Ext.keep Xo2 Ko3 (fun x hx => by
      simp only [List.mem_cons, List.not_mem_nil, or_false] at hx
      obtain ⟨-, -, -, u1, u2, u3, -⟩ := T2
      obtain ⟨-, -, -, -, -, -, u4, u5, u6⟩ := AR2
      rcases hx with rfl | rfl | rfl | rfl | rfl | rfl <;> omega)
    refine g_aload C at_196 (v := (.ref t)) rfl rfl (q := 198) rfl ?_
    refine g_aload C at_198 (v := (.ref sA)) rfl rfl (q := 200) rfl ?_
    refine g_aload C at_200 (v := (.ref mA)) rfl rfl (q := 202) rfl ?_
    refine g_aload C at_202 (v := (.ref lA)) rfl rfl (q := 204) rfl ?_
    refine g_aload C at_204 (v := (.ref iA)) rfl rfl (q := 206) rfl ?_
    refine g_aload C at_206 (v := (.ref nA)) rfl rfl (q := 208) rfl ?_
    refine g_iloadN C at_208 (v := ks) rfl (q := 209) rfl ?_
    refine g_iloadN C at_209 (v := ss) rfl (q := 210) rfl ?_
    refine g_iconst C at_210 (z := (3 : Int32)) rfl (q := 211) rfl ?_
    refine g_callS C (W := 0) (argsL := [(.ref t), (.ref sA), (.ref mA), (.ref lA), (.ref iA), (.ref nA), (.int ks), (.int ss), (.int (3 : Int32))]) (rest := []) at_211 (wd19 hw) (wd20 hw) (wd21 hw) (wd22 hw) (by decide) (Ctr.bk (c_op l Z a0 kc ku kd ka G t cA xA sA mA lA iA nA cr3 ch3 n3 (((0 + 1) + 1) + 1) wr3 o3 S3 M3 la3 (idF x y) (cnF x y) ho3 n0 T3 AR3 IN3 Xo3 (by omega) (idF_nn hx hy0) (cnF_lt x y) (cnF_iff x y) D _ _ _) C (wd22 hw) (wd21 hw) (by decide) (by decide)) (by decide) (by decide) rfl (lenOf pd6 rfl) rfl rfl (q := 214) rfl (fun vo4 ho4 hQo4 => ?_)
    obtain ⟨rfl, Ko4, cr4, ch4, n4, wr4, o4, S4, M4, la4, T4, AR4, IN4, bn4⟩ := hQo4
    refine ⟨[], rfl, ?_⟩
    have Xo4 := Ext.keep Xo3 Ko4 (fun x hx => by
      simp only [List.mem_cons, List.not_mem_nil, or_false] at hx
      obtain ⟨-, -, -, u1, u2, u3, -⟩ := T3
      obtain ⟨-, -, -, -, -, -, u4, u5, u6⟩ := AR3
      rcases hx with rfl | rfl | rfl | rfl | rfl | rfl <;> omega)
    refine g_aload C at_214 (v := (.ref t)) rfl rfl (q := 216) rfl ?_
    refine g_aload C at_216 (v := (.ref sA)) rfl rfl (q := 218) rfl ?_
    refine g_aload C at_218 (v := (.ref mA)) rfl rfl (q := 220) rfl ?_
    refine g_aload C at_220 (v := (.ref lA)) rfl rfl (q := 222) rfl ?_
    refine g_aload C at_222 (v := (.ref iA)) rfl rfl (q := 224) rfl ?_
    refine g_aload C at_224 (v := (.ref nA)) rfl rfl (q := 226) rfl ?_
    refine g_iloadN C at_226 (v := ks) rfl (q := 227) rfl ?_
    refine g_iloadN C at_227 (v := ss) rfl (q := 228) rfl ?_
    refine g_iconst C at_228 (z := (4 : Int32)) rfl (q := 229) rfl ?_
    refine g_callS C (W := 0) (argsL := [(.ref t), (.ref sA), (.ref mA), (.ref lA), (.ref iA), (.ref nA), (.int ks), (.int ss), (.int (4 : Int32))]) (rest := []) at_229 (wd19 hw) (wd20 hw) (wd21 hw) (wd22 hw) (by decide) (Ctr.bk (c_op l Z a0 kc ku kd ka G t cA xA sA mA lA iA nA cr4 ch4 n4 ((((0 + 1) + 1) + 1) + 1) wr4 o4 S4 M4 la4 (idF x y) (cnF x y) ho4 n0 T4 AR4 IN4 Xo4 (by omega) (idF_nn hx hy0) (cnF_lt x y) (cnF_iff x y) D _ _ _) C (wd22 hw) (wd21 hw) (by decide) (by decide)) (by decide) (by decide) rfl (lenOf pd6 rfl) rfl rfl (q := 232) rfl (fun vo5 ho5 hQo5 => ?_)
    obtain ⟨rfl, Ko5, cr5, ch5, n5, wr5, o5, S5, M5, la5, T5, AR5, IN5, bn5⟩ := hQo5
    refine ⟨[], rfl, ?_⟩
    have Xo5 := Ext.keep Xo4 Ko5 (fun x hx => by
      simp only [List.mem_cons, List.not_mem_nil, or_false] at hx
      obtain ⟨-, -, -, u1, u2, u3, -⟩ := T4
      obtain ⟨-, -, -, -, -, -, u4, u5, u6⟩ := AR4
      rcases hx with rfl | rfl | rfl | rfl | rfl | rfl <;> omega)
    obtain ⟨-, i1, i2, i3⟩ := IN5
    refine g_aload C at_232 (v := (.ref mA)) rfl rfl (q := 234) rfl ?_
    refine g_iconst C at_234 (z := (2 : Int32)) rfl (q := 235) rfl ?_
    refine g_iaload C at_235 (i := 2) AR5.2.1 (by decide) rfl rfl (q := 236) rfl ?_
    refine Go.joinR (pc' := 255) (fun v : Int32 => v = (if o5 then wr5 else (((((0 + 1) + 1) + 1) + 1) + 1))) (fun _ => #[.val (.int ks), .val (.int ss), .val (.long px), .second, .val (.long py), .second, .val (.long x), .second, .val (.long y), .second, .val (.ref iA), .val (.int v), .val (.ref nA), .val (.ref sA), .val (.ref mA), .val (.ref lA), .val (.ref t), .unset]) (fun v => [.int v]) ?_ (fun J => ?_)
    ·
      intro v2 hv2
      refine g_istore C at_255 (L' := #[.val (.int ks), .val (.int ss), .val (.long px), .second, .val (.long py), .second, .val (.long x), .second, .val (.long y), .second, .val (.ref iA), .val (.int v), .val (.ref nA), .val (.ref sA), .val (.ref mA), .val (.ref lA), .val (.ref t), .val (.int v2)]) rfl (q := 257) rfl ?_
      refine g_aload C at_257 (v := (.ref t)) rfl rfl (q := 259) rfl ?_
      refine g_callV C (W := 0) (argsL := []) (rest := []) (a := t) at_259 (wd55 hw) (wd56 hw) (wd58 hw) (wd57 hw) (by decide) (nf_of C (wd58 hw)) T5.1.1 (Ctr.bk (c_writes l Z a0 kc ku kd ka G t cA xA cr5 ch5 n5 (((((0 + 1) + 1) + 1) + 1) + 1) wr5 o5 ho5 n0 T5) C (wd59 hw) (wd6 hw) (by decide) (by decide)) (by decide) (by decide) rfl (lenOf pd7 rfl) rfl rfl (q := 262) rfl (fun v6 h6 hQ6 => ?_)
      obtain ⟨rfl, rfl⟩ := hQ6
      refine ⟨[(.int (if o5 then wr5 else (((((0 + 1) + 1) + 1) + 1) + 1)))], rfl, ?_⟩
      refine g_iload C at_262 (v := v2) rfl (q := 264) rfl ?_
      refine g_icmp_ne C at_264 (q' := 271) (q := 267) (by decide) (by decide) rfl (fun hy => absurd hv2.symm hy) (fun hn => ?_)
      refine g_iconst C at_267 (z := (1 : Int32)) rfl (q := 268) rfl ?_
      refine g_goto C at_268 (q := 272) (by decide) (by decide) ?_
      refine g_nreturn C at_272 (by simp) (z := 1) rfl (Nat.le_refl _) (by decide) (by decide) rfl
    ·
      refine g_if_eq C at_236 (q' := 251) (q := 239) (by decide) (by decide) rfl (fun hz => ?_) (fun hnz => ?_)
      ·
        refine g_aload C at_251 (v := (.ref mA)) rfl rfl (q := 253) rfl ?_
        refine g_iconst C at_253 (z := (1 : Int32)) rfl (q := 254) rfl ?_
        refine g_iaload C at_254 (i := 1) AR5.2.1 (by decide) rfl rfl (q := 255) rfl ?_
        exact J _ (by rw [i2] at hz; rw [(bool_z o5).mp hz, i1]; rfl)
      ·
        have ho : o5 = true := by
          cases o5
          · exact absurd (by rw [i2]; rfl) hnz
          · rfl
        refine g_aload C at_239 (v := (.ref mA)) rfl rfl (q := 241) rfl ?_
        refine g_iconst C at_241 (z := (1 : Int32)) rfl (q := 242) rfl ?_
        refine g_iaload C at_242 (i := 1) AR5.2.1 (by decide) rfl rfl (q := 243) rfl ?_
        refine g_aload C at_243 (v := (.ref mA)) rfl rfl (q := 245) rfl ?_
        refine g_iconst C at_245 (z := (0 : Int32)) rfl (q := 246) rfl ?_
        refine g_iaload C at_246 (i := 0) AR5.2.1 (by decide) rfl rfl (q := 247) rfl ?_
        refine g_isub C at_247 (q := 248) rfl ?_
        refine g_goto C at_248 (q := 255) (by decide) (by decide) ?_
        exact J _ (by rw [if_pos ho, (i3 ho).1])
  ·
    refine g_if_ne C at_51 (q' := 58) (q := 54) (by decide) (by decide) rfl (fun n0' => ?_) (fun e0 => ?_)
    ·
      have m0 : ¬ y = x := fun q => n0' ((cmpL_eq _ _).mpr q)
      refine g_lload C at_58 (v := y) rfl (q := 60) rfl ?_
      refine g_lload C at_60 (v := x) rfl (q := 62) rfl ?_
      refine g_lconst C at_62 (z := (1 : Int64)) rfl (q := 63) rfl ?_
      refine g_lxor C at_63 (q := 64) rfl ?_
      refine g_lcmp C at_64 (q := 65) rfl ?_
      refine g_if_ne C at_65 (q' := 72) (q := 68) (by decide) (by decide) rfl (fun n1' => ?_) (fun e1 => ?_)
      ·
        have m1 : ¬ y = x ^^^ 1 := fun q => n1' ((cmpL_eq _ _).mpr q)
        refine g_lload C at_72 (v := y) rfl (q := 74) rfl ?_
        refine g_lload C at_74 (v := x) rfl (q := 76) rfl ?_
        refine g_ldc2Long C at_76 (wd2 hw) (q := 79) rfl ?_
        refine g_lxor C at_79 (q := 80) rfl ?_
        refine g_lcmp C at_80 (q := 81) rfl ?_
        refine g_if_ne C at_81 (q' := 88) (q := 84) (by decide) (by decide) rfl (fun n2' => ?_) (fun e2 => ?_)
        ·
          refine g_iconst C at_88 (z := (3 : Int32)) rfl (q := 89) rfl ?_
          exact J _ (by simp [yc, m0, m1, show ¬ y = x ^^^ 2 from fun q => n2' ((cmpL_eq _ _).mpr q)])
        ·
          refine g_iconst C at_84 (z := (2 : Int32)) rfl (q := 85) rfl ?_
          refine g_goto C at_85 (q := 89) (by decide) (by decide) ?_
          exact J _ (by unfold yc; rw [if_neg m0, if_neg m1, if_pos ((cmpL_eq _ _).mp e2)]; rfl)
      ·
        refine g_iconst C at_68 (z := (1 : Int32)) rfl (q := 69) rfl ?_
        refine g_goto C at_69 (q := 89) (by decide) (by decide) ?_
        exact J _ (by unfold yc; rw [if_neg m0, if_pos ((cmpL_eq _ _).mp e1)]; rfl)
    ·
      refine g_iconst C at_54 (z := (0 : Int32)) rfl (q := 55) rfl ?_
      refine g_goto C at_55 (q := 89) (by decide) (by decide) ?_
      exact J _ (by unfold yc; rw [if_pos ((cmpL_eq _ _).mp e0)]; rfl)
theorem eq_int' {t : Term} {n : Int32} {args : Array Value} {s : State} (h : (Cond.eq t (.int n)).before args s = true) : t.eval args s none [] s = some (.int n) := by
  have h := Cond.before_iff.mp h
  simp only [Cond.value, Term.int_eval] at h
  cases e : t.eval args s none [] s with
  | none => simp [e] at h
  | some v => cases v <;> simp [e] at h ⊢; exact h
theorem field_eval {t : Term} {C f d : String} {args : Array Value} {s : State} {a : Addr} (e : t.eval args s none [] s = some (.ref a)) : (Term.field t C f d).eval args s none [] s = s.fieldOf? a C f d := by
  simp [Term.eval, e]
set_option maxRecDepth 65536 in
set_option maxHeartbeats 40000000 in
theorem comes_1 {Post : Tables → Env → Array Value → State → Outcome → State → Prop} (hpost : ∀ tb e args s v u, (limb_1_1.after args s (.returned v) u = true ∧ limb_1_2.after args s (.returned v) u = true ∧ True) → FrameEnd s (.returned v) u (Jvm.fieldLocs frame_1_writes args s ++ Jvm.arrayLocs frame_1_arrays args s ++ Jvm.staticLocs frame_1_statics s) 24 384 → Post tb e args s (.returned v) u) :
    ArmFor flags0 classFile x code maxLocals ret World_1 tables_1 room_1 Calls_1 rest_1 Pre_1 Post := by
  intro l hfl _ _ p e ha hc hk s m args below hf hA hF happ hP
  obtain ⟨hcalls, hrest, hpre⟩ := hP
  obtain ⟨-, -, -, hnamed, -, -, -, hat⟩ := (Spec.applies_iff hf).mp happ
  obtain ⟨hg, hn⟩ := and_e (Cond.before_iff.mp (show (Jvm.Cond.and given_1 narrow_1).before args s = true from hpre))
  obtain ⟨hcount, hg0⟩ := and_e hg
  obtain ⟨ha0, hg1⟩ := and_e hg0
  obtain ⟨ha1, hg2⟩ := and_e hg1
  obtain ⟨ha2, hg3⟩ := and_e hg2
  have ha3 := hg3
  obtain ⟨w0, w1, w2, w3, rfl⟩ : ∃ w0 w1 w2 w3 : Value, args = #[w0, w1, w2, w3] := by
    have hs : args.size = 4 := by simpa [Cond.value, given_1] using hcount
    obtain ⟨L⟩ := args
    match L, hs with
    | [w0, w1, w2, w3], _ => exact ⟨w0, w1, w2, w3, rfl⟩
  have hw := fun d (hd : d ∈ tables_1) => atoms_spec (ws := Jvm.Cond.code x code maxLocals ret :: tables_1) hat d (List.mem_cons_of_mem _ hd)
  have hfit : Fit s := fun {y c} hc i hi => by
    obtain ⟨ha, rfl⟩ := Array.getElem?_eq_some_iff.mp hc
    have q := List.all_eq_true.mp ((Array.all_eq_true_iff_forall_mem.mp hF) _ (Array.getElem_mem ha)) i (List.mem_range.mpr hi)
    simpa [Array.getElem?_eq_getElem hi] using q
  obtain ⟨x0, ea0⟩ := is_v ha0
  obtain rfl : w0 = (.int x0) := Option.some.inj ea0
  obtain ⟨x1, ea1⟩ := is_v ha1
  obtain rfl : w1 = (.int x1) := Option.some.inj ea1
  obtain ⟨x2, ea2⟩ := isL_v ha2
  obtain rfl : w2 = (.long x2) := Option.some.inj ea2
  obtain ⟨x3, ea3⟩ := isL_v ha3
  obtain rfl : w3 = (.long x3) := Option.some.inj ea3
  obtain ⟨g0, hn0⟩ := and_e hn
  obtain ⟨g1, hn1⟩ := and_e hn0
  obtain ⟨g2, hn2⟩ := and_e hn1
  obtain ⟨g3, hn3⟩ := and_e hn2
  obtain ⟨g4, hn4⟩ := and_e hn3
  obtain ⟨g5, hn5⟩ := and_e hn4
  obtain ⟨g6, hn6⟩ := and_e hn5
  have g7 := hn6
  obtain ⟨kCREATE, -, -, -, eCREATE, -⟩ := Cond.exactly_spec (Cond.before_iff.mpr g0)
  have SCREATE := Sta.start eCREATE (Or.inr ⟨(wd27 hw), (wd28 hw)⟩)
  obtain ⟨kDELETE, -, -, -, eDELETE, -⟩ := Cond.exactly_spec (Cond.before_iff.mpr g1)
  have SDELETE := Sta.start eDELETE (Or.inr ⟨(wd27 hw), (wd61 hw)⟩)
  obtain ⟨kUPDATE, -, -, -, eUPDATE, -⟩ := Cond.exactly_spec (Cond.before_iff.mpr g4)
  have SUPDATE := Sta.start eUPDATE (Or.inr ⟨(wd27 hw), (wd63 hw)⟩)
  obtain ⟨kASSIGN, -, -, -, eASSIGN, -⟩ := Cond.exactly_spec (Cond.before_iff.mpr g6)
  have SASSIGN := Sta.start eASSIGN (Or.inr ⟨(wd27 hw), (wd65 hw)⟩)
  have oDELETE := eq_int' (Cond.before_iff.mpr g2)
  rw [field_eval eDELETE] at oDELETE
  have oCREATE := eq_int' (Cond.before_iff.mpr g3)
  rw [field_eval eCREATE] at oCREATE
  have oUPDATE := eq_int' (Cond.before_iff.mpr g5)
  rw [field_eval eUPDATE] at oUPDATE
  have oASSIGN := eq_int' (Cond.before_iff.mpr g7)
  rw [field_eval eASSIGN] at oASSIGN
  have nUPDATECREATE : ¬ kUPDATE = kCREATE := fun q => by rw [q] at oUPDATE; rw [oUPDATE] at oCREATE; cases oCREATE
  have nDELETECREATE : ¬ kDELETE = kCREATE := fun q => by rw [q] at oDELETE; rw [oDELETE] at oCREATE; cases oCREATE
  have nASSIGNCREATE : ¬ kASSIGN = kCREATE := fun q => by rw [q] at oASSIGN; rw [oASSIGN] at oCREATE; cases oCREATE
  have nUPDATEDELETE : ¬ kUPDATE = kDELETE := fun q => by rw [q] at oUPDATE; rw [oUPDATE] at oDELETE; cases oDELETE
  have nASSIGNDELETE : ¬ kASSIGN = kDELETE := fun q => by rw [q] at oASSIGN; rw [oASSIGN] at oDELETE; cases oDELETE
  obtain ⟨n, o, h1, h2, h3, _, L, rfl, ⟨rfl, N⟩, hq⟩ := c_law l s _ kCREATE kUPDATE kDELETE kASSIGN ⟨hw, SCREATE, SUPDATE, SDELETE, SASSIGN, nUPDATECREATE, nDELETECREATE, nASSIGNCREATE, nUPDATEDELETE, nASSIGNDELETE⟩ x0 x1 x2 x3 s.heap s.heap.size (Nat.le_refl _) (Nat.le_refl _) (Ext.rfl' _) p e ha hc hk s m _ below hf (app_less hf ((Spec.applies_iff_loose hf).mp happ).1) ⟨rfl, State.Warmed39.refl s, rfl⟩ trivial
  refine ⟨n, _, h1, h2, h3, hpost _ _ _ _ _ _ ⟨Cond.after_iff.mpr rfl, Cond.after_iff.mpr (eq_i res_at (Term.int_eval (1)) rfl), trivial⟩ ⟨hq.1, hq.2.1, (hq.2.2.sift fun y hy => Or.inr (N y hy)).mono (by decide) (by decide)⟩⟩
theorem main_1_1 : Claimed_1_1 := comes_1 fun _ _ _ _ _ _ h hF => ⟨h.1, hF⟩
theorem main_1_2 : Claimed_1_2 := comes_1 fun _ _ _ _ _ _ h hF => ⟨h.2.1, hF⟩
end Jvm.Pilot.@@N@@
namespace Jvm.Pilot.@@N@@
open Jvm Jvm.ClassFile Sem Op Lib Jvm.Free Jvm.Stand Jvm.Pilot.@@N@@.Jvm.D
/-! MADE BY PROGRAM (witnessworld.py) out of the Statement's table words and the real class files: 16 classes; the members and pool entries that the words name. The judged class is class 1, her method 1. -/
namespace start1
open Jvm.ClassFile
def u (s : String) : CpInfo := .utf8 (stringToUtf16 s)
/-- a pool by its gaps: so many unusable entries, then the entry; so many at the end -/
def gap : Nat → List CpInfo → List CpInfo
  | 0, r => r
  | n + 1, r => .unusable :: gap n r
def poolList (es : List (Nat × CpInfo)) (last : Nat) : List CpInfo := es.foldr (fun e r => gap e.1 (e.2 :: r)) (gap last [])
def pool (es : List (Nat × CpInfo)) (last : Nat) : Array CpInfo := ⟨poolList es last⟩
def fileOf (pool : Array CpInfo) (this : Nat) (attrs : Array Attribute := #[]) (ms : Array MethodInfo := #[]) (fl : Nat := 33) (sup : Nat := 0) (ifs : Array Nat := #[]) (fds : Array FieldInfo := #[]) : ClassFile where
  minorVersion := 0
  majorVersion := 65
  constantPool := pool
  accessFlags := fl
  thisClass := this
  superClass := sup
  interfaces := ifs
  fields := fds
  methods := ms
  attributes := attrs
def plain (name : String) (sup : Option ClassId) : Class where
  name := name
  kind := .ordinary
  loader := none
  accessFlags := 33
  super := sup
  interfaces := #[]
  cf := none
  fields := #[]
  methods := #[]
  instanceTypes := #[]
  staticTypes := #[]
  resolved := #[]
  callSites := []
  init := .initialized
  statics := none
  mirror := none

def pool0 : Array CpInfo := pool [(5, u "<init>"), (0, u "()V"), (1, .class_ 10), (1, u "java/lang/Object")] 113

def k0c0 : Code := { maxStack := 0, maxLocals := 1, code := object_method_1_code, exceptionTable := #[], attributes := #[] }
def k0m0 : Method := { name := "<init>", desc := "()V", sig := { parameters := [], returnType := none }, accessFlags := 1, code := some k0c0 }
/-- java/lang/Object -/
def k0 : Class := { plain "java/lang/Object" none with
  accessFlags := 33
  interfaces := #[]
  cf := some (fileOf pool0 8 #[] #[{ accessFlags := 1, nameIndex := 5, descriptorIndex := 6, attributes := #[] }] 33 0 #[] #[])
  fields := #[]
  methods := #[k0m0]
  instanceTypes := #[]
  staticTypes := #[]
  resolved := Array.replicate 124 none
  statics := none }

def pool1 : Array CpInfo := pool [(2, .class_ 4), (0, .nameAndType 5 6), (0, u "java/lang/Object"), (0, u "<init>"), (0, u "()V"), (2, .long 9223372036854775807), (1, .long 2), (1, .class_ 14), (0, u "com/example/nuthatch/nuthatch/store/JournalTally"), (0, .methodref 13 3), (0, .methodref 17 18), (0, .class_ 19), (0, .nameAndType 20 21), (0, u "com/example/nuthatch/nuthatch/store/JournalTallyWritesPinLaw"), (0, u "op"), (0, u "(Lcom/example/nuthatch/nuthatch/store/JournalTally;[I[I[J[J[IIII)V"), (0, .methodref 13 23), (0, .nameAndType 24 25), (0, u "writes"), (0, u "()I"), (0, .methodref 17 27), (0, .nameAndType 28 29), (0, u "kind"), (0, u "(I)Lcom/example/nuthatch/nuthatch/store/ChangeRecord$Kind;"), (0, .methodref 13 31), (0, .nameAndType 32 33), (0, u "add"), (0, u "(Lcom/example/nuthatch/nuthatch/store/ChangeRecord$Kind;J)V"), (0, .fieldref 35 36), (0, .class_ 37), (0, .nameAndType 38 39), (0, u "com/example/nuthatch/nuthatch/store/ChangeRecord$Kind"), (0, u "CREATE"), (0, u "Lcom/example/nuthatch/nuthatch/store/ChangeRecord$Kind;"), (0, .fieldref 35 41), (0, .nameAndType 42 39), (0, u "UPDATE"), (0, .fieldref 35 44), (0, .nameAndType 45 39), (0, u "DELETE"), (0, .fieldref 35 47), (0, .nameAndType 48 39), (0, u "ASSIGN"), (2, u "law"), (0, u "(IIJJ)Z")] 11

def k1m0 : Method := { name := "<init>", desc := "()V", sig := { parameters := [], returnType := none }, accessFlags := 1, code := none }
def k1c1 : Code := { maxStack := 9, maxLocals := 18, code := code, exceptionTable := #[], attributes := #[] }
def k1m1 : Method := { name := "law", desc := "(IIJJ)Z", sig := { parameters := [.int, .int, .long, .long], returnType := some .boolean }, accessFlags := 9, code := some k1c1 }
def k1c2 : Code := { maxStack := 5, maxLocals := 14, code := method_3_code, exceptionTable := #[], attributes := #[] }
def k1m2 : Method := { name := "op", desc := "(Lcom/example/nuthatch/nuthatch/store/JournalTally;[I[I[J[J[IIII)V", sig := { parameters := [(.object "com/example/nuthatch/nuthatch/store/JournalTally"), (.array .int), (.array .int), (.array .long), (.array .long), (.array .int), .int, .int, .int], returnType := none }, accessFlags := 10, code := some k1c2 }
def k1c3 : Code := { maxStack := 2, maxLocals := 1, code := method_4_code, exceptionTable := #[], attributes := #[] }
def k1m3 : Method := { name := "kind", desc := "(I)Lcom/example/nuthatch/nuthatch/store/ChangeRecord$Kind;", sig := { parameters := [.int], returnType := some (.object "com/example/nuthatch/nuthatch/store/ChangeRecord$Kind") }, accessFlags := 10, code := some k1c3 }
/-- com/example/nuthatch/nuthatch/store/JournalTallyWritesPinLaw -/
def k1 : Class := { plain "com/example/nuthatch/nuthatch/store/JournalTallyWritesPinLaw" (some 0) with
  accessFlags := 49
  interfaces := #[]
  cf := some (fileOf pool1 17 #[] #[{ accessFlags := 1, nameIndex := 5, descriptorIndex := 6, attributes := #[] }, { accessFlags := 9, nameIndex := 51, descriptorIndex := 52, attributes := #[] }, { accessFlags := 10, nameIndex := 20, descriptorIndex := 21, attributes := #[] }, { accessFlags := 10, nameIndex := 28, descriptorIndex := 29, attributes := #[] }] 49 2 #[] #[])
  fields := #[]
  methods := #[k1m0, k1m1, k1m2, k1m3]
  instanceTypes := #[]
  staticTypes := #[]
  resolved := Array.replicate 64 none
  statics := none }

def pool2 : Array CpInfo := pool [(1, .methodref 2 3), (0, .class_ 4), (0, .nameAndType 5 6), (0, u "java/lang/Object"), (0, u "<init>"), (0, u "()V"), (0, .fieldref 8 9), (0, .class_ 10), (0, .nameAndType 11 12), (0, u "com/example/nuthatch/nuthatch/store/JournalTally"), (0, u "created"), (0, u "[J"), (0, .fieldref 8 14), (0, .nameAndType 15 16), (0, u "changes"), (0, u "[I"), (0, .fieldref 8 18), (0, .nameAndType 19 20), (0, u "ordered"), (0, u "Z"), (0, .methodref 8 22), (0, .nameAndType 23 24), (0, u "creation"), (0, u "(J)I"), (0, .fieldref 26 27), (0, .class_ 28), (0, .nameAndType 29 30), (0, u "com/example/nuthatch/nuthatch/store/ChangeRecord$Kind"), (0, u "CREATE"), (0, u "Lcom/example/nuthatch/nuthatch/store/ChangeRecord$Kind;"), (0, .fieldref 8 32), (0, .nameAndType 33 34), (0, u "creates"), (0, u "I"), (1, .class_ 38), (1, u "java/util/Arrays"), (5, .fieldref 8 45), (0, .nameAndType 46 34), (0, u "writes"), (0, .fieldref 26 48), (0, .nameAndType 49 30), (0, u "DELETE"), (0, .fieldref 8 51), (0, .nameAndType 52 34), (0, u "count"), (0, .methodref 36 54), (0, .nameAndType 55 56), (0, u "binarySearch"), (0, u "([JIIJ)I"), (2, u "add"), (0, u "(Lcom/example/nuthatch/nuthatch/store/ChangeRecord$Kind;J)V"), (1, u "()I")] 11

def k2c0 : Code := { maxStack := 2, maxLocals := 1, code := prog_42_method_1_code, exceptionTable := #[], attributes := #[] }
def k2m0 : Method := { name := "<init>", desc := "()V", sig := { parameters := [], returnType := none }, accessFlags := 0, code := some k2c0 }
def k2c1 : Code := { maxStack := 7, maxLocals := 5, code := prog_42_method_2_code, exceptionTable := #[], attributes := #[] }
def k2m1 : Method := { name := "add", desc := "(Lcom/example/nuthatch/nuthatch/store/ChangeRecord$Kind;J)V", sig := { parameters := [(.object "com/example/nuthatch/nuthatch/store/ChangeRecord$Kind"), .long], returnType := none }, accessFlags := 0, code := some k2c1 }
def k2c2 : Code := { maxStack := 1, maxLocals := 1, code := prog_42_method_3_code, exceptionTable := #[], attributes := #[] }
def k2m2 : Method := { name := "writes", desc := "()I", sig := { parameters := [], returnType := some .int }, accessFlags := 0, code := some k2c2 }
def k2c3 : Code := { maxStack := 5, maxLocals := 7, code := prog_42_method_6_code, exceptionTable := #[], attributes := #[] }
def k2m3 : Method := { name := "creation", desc := "(J)I", sig := { parameters := [.long], returnType := some .int }, accessFlags := 2, code := some k2c3 }
/-- com/example/nuthatch/nuthatch/store/JournalTally -/
def k2 : Class := { plain "com/example/nuthatch/nuthatch/store/JournalTally" (some 0) with
  accessFlags := 48
  interfaces := #[]
  cf := some (fileOf pool2 8 #[] #[{ accessFlags := 0, nameIndex := 5, descriptorIndex := 6, attributes := #[] }, { accessFlags := 0, nameIndex := 59, descriptorIndex := 60, attributes := #[] }, { accessFlags := 0, nameIndex := 46, descriptorIndex := 62, attributes := #[] }, { accessFlags := 2, nameIndex := 23, descriptorIndex := 24, attributes := #[] }] 48 2 #[] #[{ accessFlags := 2, nameIndex := 11, descriptorIndex := 12, attributes := #[] }, { accessFlags := 2, nameIndex := 15, descriptorIndex := 16, attributes := #[] }, { accessFlags := 2, nameIndex := 33, descriptorIndex := 34, attributes := #[] }, { accessFlags := 2, nameIndex := 52, descriptorIndex := 34, attributes := #[] }, { accessFlags := 2, nameIndex := 46, descriptorIndex := 34, attributes := #[] }, { accessFlags := 2, nameIndex := 19, descriptorIndex := 20, attributes := #[] }])
  fields := #[{ name := "created", type := (.array .long), accessFlags := 2, slot := 0, constantValue := 0 }, { name := "changes", type := (.array .int), accessFlags := 2, slot := 1, constantValue := 0 }, { name := "creates", type := .int, accessFlags := 2, slot := 2, constantValue := 0 }, { name := "count", type := .int, accessFlags := 2, slot := 3, constantValue := 0 }, { name := "writes", type := .int, accessFlags := 2, slot := 4, constantValue := 0 }, { name := "ordered", type := .boolean, accessFlags := 2, slot := 5, constantValue := 0 }]
  methods := #[k2m0, k2m1, k2m2, k2m3]
  instanceTypes := #[(.array .long), (.array .int), .int, .int, .int, .boolean]
  staticTypes := #[]
  resolved := Array.replicate 74 none
  statics := none }

def pool3 : Array CpInfo := pool [(1, .class_ 2), (0, u "java/lang/constant/Constable"), (0, .class_ 4), (0, u "java/lang/Object")] 6

/-- java/lang/constant/Constable -/
def k3 : Class := { plain "java/lang/constant/Constable" (some 0) with
  accessFlags := 1537
  interfaces := #[]
  cf := some (fileOf pool3 1 #[] #[] 1537 3 #[] #[])
  fields := #[]
  methods := #[]
  instanceTypes := #[]
  staticTypes := #[]
  resolved := Array.replicate 11 none
  statics := none }

def pool4 : Array CpInfo := pool [(1, .class_ 2), (0, u "java/lang/Comparable"), (0, .class_ 4), (0, u "java/lang/Object")] 7

/-- java/lang/Comparable -/
def k4 : Class := { plain "java/lang/Comparable" (some 0) with
  accessFlags := 1537
  interfaces := #[]
  cf := some (fileOf pool4 1 #[] #[] 1537 3 #[] #[])
  fields := #[]
  methods := #[]
  instanceTypes := #[]
  staticTypes := #[]
  resolved := Array.replicate 12 none
  statics := none }

def pool5 : Array CpInfo := pool [(1, .class_ 2), (0, u "java/io/Serializable"), (0, .class_ 4), (0, u "java/lang/Object")] 2

/-- java/io/Serializable -/
def k5 : Class := { plain "java/io/Serializable" (some 0) with
  accessFlags := 1537
  interfaces := #[]
  cf := some (fileOf pool5 1 #[] #[] 1537 3 #[] #[])
  fields := #[]
  methods := #[]
  instanceTypes := #[]
  staticTypes := #[]
  resolved := Array.replicate 7 none
  statics := none }

def pool6 : Array CpInfo := pool [(2, .class_ 4), (1, u "java/lang/Enum"), (0, u "name"), (0, u "Ljava/lang/String;"), (2, u "ordinal"), (0, u "I"), (1, .class_ 14), (1, u "java/lang/Object"), (4, u "hash"), (86, .class_ 108), (1, u "java/lang/Enum$EnumDesc"), (2, .class_ 112), (0, u "java/lang/constant/Constable"), (0, .class_ 114), (0, u "java/lang/Comparable"), (0, .class_ 116), (0, u "java/io/Serializable")] 87

/-- java/lang/Enum -/
def k6 : Class := { plain "java/lang/Enum" (some 0) with
  accessFlags := 1057
  interfaces := #[3, 4, 5]
  cf := some (fileOf pool6 2 #[.nestMembers #[106]] #[] 1057 12 #[111, 113, 115] #[{ accessFlags := 18, nameIndex := 5, descriptorIndex := 6, attributes := #[] }, { accessFlags := 18, nameIndex := 9, descriptorIndex := 10, attributes := #[] }, { accessFlags := 2, nameIndex := 19, descriptorIndex := 10, attributes := #[] }])
  fields := #[{ name := "name", type := (.object "java/lang/String"), accessFlags := 18, slot := 0, constantValue := 0 }, { name := "ordinal", type := .int, accessFlags := 18, slot := 1, constantValue := 0 }, { name := "hash", type := .int, accessFlags := 2, slot := 2, constantValue := 0 }]
  methods := #[]
  instanceTypes := #[(.object "java/lang/String"), .int, .int]
  staticTypes := #[]
  resolved := Array.replicate 204 none
  statics := none }

def pool7 : Array CpInfo := pool [(1, .class_ 2), (0, u "com/example/nuthatch/nuthatch/store/ChangeRecord$Kind"), (2, u "CREATE"), (0, u "Lcom/example/nuthatch/nuthatch/store/ChangeRecord$Kind;"), (2, u "UPDATE"), (2, u "DELETE"), (2, u "ASSIGN"), (2, u "$VALUES"), (0, u "[Lcom/example/nuthatch/nuthatch/store/ChangeRecord$Kind;"), (6, .class_ 28), (1, u "java/lang/Enum"), (27, .class_ 57), (0, u "com/example/nuthatch/nuthatch/store/ChangeRecord")] 2

/-- com/example/nuthatch/nuthatch/store/ChangeRecord$Kind -/
def k7 : Class := { plain "com/example/nuthatch/nuthatch/store/ChangeRecord$Kind" (some 6) with
  accessFlags := 16432
  interfaces := #[]
  cf := some (fileOf pool7 1 #[.nestHost 56] #[] 16432 26 #[] #[{ accessFlags := 16409, nameIndex := 5, descriptorIndex := 6, attributes := #[] }, { accessFlags := 16409, nameIndex := 9, descriptorIndex := 6, attributes := #[] }, { accessFlags := 16409, nameIndex := 12, descriptorIndex := 6, attributes := #[] }, { accessFlags := 16409, nameIndex := 15, descriptorIndex := 6, attributes := #[] }, { accessFlags := 4122, nameIndex := 18, descriptorIndex := 19, attributes := #[] }])
  fields := #[{ name := "CREATE", type := (.object "com/example/nuthatch/nuthatch/store/ChangeRecord$Kind"), accessFlags := 16409, slot := 0, constantValue := 0 }, { name := "UPDATE", type := (.object "com/example/nuthatch/nuthatch/store/ChangeRecord$Kind"), accessFlags := 16409, slot := 1, constantValue := 0 }, { name := "DELETE", type := (.object "com/example/nuthatch/nuthatch/store/ChangeRecord$Kind"), accessFlags := 16409, slot := 2, constantValue := 0 }, { name := "ASSIGN", type := (.object "com/example/nuthatch/nuthatch/store/ChangeRecord$Kind"), accessFlags := 16409, slot := 3, constantValue := 0 }, { name := "$VALUES", type := (.array (.object "com/example/nuthatch/nuthatch/store/ChangeRecord$Kind")), accessFlags := 4122, slot := 4, constantValue := 0 }]
  methods := #[]
  instanceTypes := #[(.object "java/lang/String"), .int, .int]
  staticTypes := #[(.object "com/example/nuthatch/nuthatch/store/ChangeRecord$Kind"), (.object "com/example/nuthatch/nuthatch/store/ChangeRecord$Kind"), (.object "com/example/nuthatch/nuthatch/store/ChangeRecord$Kind"), (.object "com/example/nuthatch/nuthatch/store/ChangeRecord$Kind"), (.array (.object "com/example/nuthatch/nuthatch/store/ChangeRecord$Kind"))]
  resolved := Array.replicate 60 none
  statics := some 0 }

def pool8 : Array CpInfo := pool [(2, .class_ 4), (1, u "java/lang/Object"), (0, u "<init>"), (0, u "()V"), (6, .methodref 14 15), (0, .class_ 16), (0, .nameAndType 17 18), (0, u "java/util/Arrays"), (0, u "rangeCheck"), (0, u "(III)V"), (55, .class_ 76), (1, u "java/util/Arrays$NaturalOrder"), (36, .class_ 115), (1, u "java/util/Arrays$LegacyMergeSort"), (1, u "Z"), (87, .methodref 14 206), (0, .nameAndType 207 208), (0, u "binarySearch0"), (0, u "([JIIJ)I"), (166, .class_ 376), (0, u "java/util/Arrays$ArrayList"), (68, u "$assertionsDisabled"), (269, u "MIN_ARRAY_SORT_GRAN"), (0, u "I"), (2, u "INSERTIONSORT_THRESHOLD"), (74, u "binarySearch"), (180, .class_ 976), (0, u "java/util/Arrays$ArrayItr")] 52

def k8m0 : Method := { name := "<init>", desc := "()V", sig := { parameters := [], returnType := none }, accessFlags := 2, code := none }
def k8c1 : Code := { maxStack := 4, maxLocals := 3, code := jdk_65_method_30_code, exceptionTable := #[], attributes := #[] }
def k8m1 : Method := { name := "rangeCheck", desc := "(III)V", sig := { parameters := [.int, .int, .int], returnType := none }, accessFlags := 8, code := some k8c1 }
def k8c2 : Code := { maxStack := 5, maxLocals := 5, code := jdk_65_method_55_code, exceptionTable := #[], attributes := #[] }
def k8m2 : Method := { name := "binarySearch", desc := "([JIIJ)I", sig := { parameters := [(.array .long), .int, .int, .long], returnType := some .int }, accessFlags := 9, code := some k8c2 }
def k8c3 : Code := { maxStack := 4, maxLocals := 10, code := jdk_65_method_56_code, exceptionTable := #[], attributes := #[] }
def k8m3 : Method := { name := "binarySearch0", desc := "([JIIJ)I", sig := { parameters := [(.array .long), .int, .int, .long], returnType := some .int }, accessFlags := 10, code := some k8c3 }
/-- java/util/Arrays -/
def k8 : Class := { plain "java/util/Arrays" (some 0) with
  accessFlags := 49
  interfaces := #[]
  cf := some (fileOf pool8 14 #[.nestMembers #[975, 375, 113, 74]] #[{ accessFlags := 2, nameIndex := 5, descriptorIndex := 6, attributes := #[] }, { accessFlags := 8, nameIndex := 17, descriptorIndex := 18, attributes := #[] }, { accessFlags := 9, nameIndex := 794, descriptorIndex := 208, attributes := #[] }, { accessFlags := 10, nameIndex := 207, descriptorIndex := 208, attributes := #[] }] 49 2 #[] #[{ accessFlags := 26, nameIndex := 715, descriptorIndex := 716, attributes := #[] }, { accessFlags := 26, nameIndex := 719, descriptorIndex := 716, attributes := #[] }, { accessFlags := 4120, nameIndex := 445, descriptorIndex := 117, attributes := #[] }])
  fields := #[{ name := "MIN_ARRAY_SORT_GRAN", type := .int, accessFlags := 26, slot := 0, constantValue := 0 }, { name := "INSERTIONSORT_THRESHOLD", type := .int, accessFlags := 26, slot := 1, constantValue := 0 }, { name := "$assertionsDisabled", type := .boolean, accessFlags := 4120, slot := 2, constantValue := 0 }]
  methods := #[k8m0, k8m1, k8m2, k8m3]
  instanceTypes := #[]
  staticTypes := #[.int, .int, .boolean]
  resolved := Array.replicate 1029 none
  statics := none }

def pool9 : Array CpInfo := pool [(1, u "java/lang/Cloneable"), (0, .class_ 1), (0, u "java/lang/Object"), (0, .class_ 3)] 3

/-- java/lang/Cloneable -/
def k9 : Class := { plain "java/lang/Cloneable" (some 0) with
  accessFlags := 1537
  interfaces := #[]
  cf := some (fileOf pool9 2 #[] #[] 1537 4 #[] #[])
  fields := #[]
  methods := #[]
  instanceTypes := #[]
  staticTypes := #[]
  resolved := Array.replicate 8 none
  statics := none }

/-- the primitive byte -/
def k10 : Class := { plain "byte" none with kind := .primitive 'B', accessFlags := 0x411 }
/-- [B -/
def k11 : Class := { plain "[B" (some 0) with kind := .array 10 .byte, interfaces := #[9, 5], accessFlags := 1041 }

/-- the primitive int -/
def k12 : Class := { plain "int" none with kind := .primitive 'I', accessFlags := 0x411 }
/-- [I -/
def k13 : Class := { plain "[I" (some 0) with kind := .array 12 .int, interfaces := #[9, 5], accessFlags := 1041 }

/-- the primitive long -/
def k14 : Class := { plain "long" none with kind := .primitive 'J', accessFlags := 0x411 }
/-- [J -/
def k15 : Class := { plain "[J" (some 0) with kind := .array 14 .long, interfaces := #[9, 5], accessFlags := 1041 }

def heap : Heap := #[{ cls := 7, slots := #[.ref 1, .ref 2, .ref 3, .ref 4, .null], vm := .statics 7 },
  { cls := 7, slots := #[.null, .int 0, .int 0], vm := .none },
  { cls := 7, slots := #[.null, .int 1, .int 0], vm := .none },
  { cls := 7, slots := #[.null, .int 2, .int 0], vm := .none },
  { cls := 7, slots := #[.null, .int 3, .int 0], vm := .none }]
def classes : Array Class := #[k0, k1, k2, k3, k4, k5, k6, k7, k8, k9, k10, k11, k12, k13, k14, k15]
def interned : List (Array UInt16 × Addr) := []
def slotsUsed : Nat := 17
def theMethod : MethodId := ⟨1, 1⟩
def args0 : Array Value := #[.int 1, .int 2, .long 5, .long 6]
def aboutOver (below : List Frame) : State where
  vm := { classes := classes, interned := interned.toArray }
  heap := heap
  slotsUsed := slotsUsed
  threads := #[{ frames := .invoking theMethod args0 :: below }]
def below0 : List Frame := [.native { method := ⟨0, 0⟩, args := #[] }]
def about1 : State := aboutOver below0
def p0 : Program := .bare "" "" ""
def e0 : Env := launch0.env 0 0 0
theorem w_frames : about1.frames = Frame.invoking theMethod args0 :: below0 := rfl
set_option maxRecDepth 65536 in
theorem w_args : argsFit about1.vm theMethod args0 = true := by decide +kernel
set_option maxRecDepth 65536 in
theorem w_heap : heapFits about1 = true := by decide +kernel
set_option maxRecDepth 65536 in
theorem w_runnable : about1.curStatus? = some .runnable := by decide +kernel
set_option maxRecDepth 65536 in
theorem w_alone : about1.alone = true := by decide +kernel
set_option maxRecDepth 65536 in
theorem w_named : about1.methodNamed? x = some theMethod := by decide +kernel
set_option maxRecDepth 65536 in
theorem w_hears : about1.hears theMethod below0 = true := by decide +kernel
set_option maxRecDepth 65536 in
theorem w_ripe : about1.ripe theMethod args0 below0 = true := by decide +kernel
theorem w_running : about1.status = .running := rfl
set_option maxRecDepth 65536 in
theorem w_room : about1.hasRoom e0.platform room_1 = true :=
  launch0.hasRoom_least _ room_1 (by decide +kernel) (by decide +kernel) (by decide +kernel) (by decide +kernel) (by decide +kernel) (by decide +kernel)
theorem allAtoms_all (ts : List Jvm.Cond) (a : Array Jvm.Value) (st : Jvm.State) : (allAtoms ts).before a st = ts.all (fun c => c.before a st) := by
  induction ts with
  | nil => rfl
  | cons c t ih =>
    show (Jvm.Cond.and c (allAtoms t)).before a st = _
    rw [Jvm.Cond.before_and, ih, List.all_cons]
def words1 : List Jvm.Cond := Jvm.Cond.code x code maxLocals ret :: tables_1
/-- a 'code' word, met by the world's own term for the bytes: nothing is compared byte by byte -/
theorem code_word {y : MethodName} {bytes : ByteArray} {mx : Nat} {rt : Option FieldType} {a : Array Value} {s : State} {m : MethodId} {meth : Method} {c : Code} (h1 : s.methodNamed? y = some m) (h2 : s.vm.method? m = some meth) (h3 : meth.code = some c) (h4 : c.code = bytes)
    (h5 : (c.maxLocals == mx && c.exceptionTable.isEmpty && decide (c.maxStack ≤ mostOperands) && decide (meth.sig.returnType = rt) && !meth.locks && decide (parseMethodDescriptor y.desc = some meth.sig)) = true) : (Jvm.Cond.code y bytes mx rt).before a s = true := by
  simp only [Bool.and_eq_true, beq_iff_eq, Bool.not_eq_true', decide_eq_true_eq] at h5
  obtain ⟨⟨⟨⟨⟨g1, g2⟩, g3⟩, g4⟩, g5⟩, g6⟩ := h5
  simp [Cond.before, Cond.holds, Cond.value, h1, h2, h3, h4, g1, g2, g3, g4, g5, g6]
def isCode : Jvm.Cond → Bool
  | .code _ _ _ _ => true
  | _ => false
theorem all_split {L : List Jvm.Cond} {P : Jvm.Cond → Bool} (h1 : L.all (fun c => isCode c || P c) = true) (h2 : ∀ c ∈ L.filter isCode, P c = true) : L.all P = true := by
  refine List.all_eq_true.mpr fun c hc => ?_
  have h := List.all_eq_true.mp h1 c hc
  rcases Bool.eq_false_or_eq_true (isCode c) with hi | hi
  · exact h2 c (List.mem_filter.mpr ⟨hc, hi⟩)
  · simpa [hi] using h
set_option maxRecDepth 65536 in
theorem w_c0 : (Jvm.Cond.code x code maxLocals ret).before args0 about1 = true := code_word (m := ⟨1, 1⟩) (meth := k1m1) (c := k1c1) (by decide +kernel) rfl rfl rfl (by decide +kernel)
set_option maxRecDepth 65536 in
theorem w_c1 : (Jvm.Cond.code ({ cls := "com/example/nuthatch/nuthatch/store/JournalTally", name := "<init>", desc := "()V" } : Jvm.MethodName) prog_42_method_1_code (1 : Nat) (Option.none : Option Jvm.ClassFile.FieldType)).before args0 about1 = true := code_word (m := ⟨2, 0⟩) (meth := k2m0) (c := k2c0) (by decide +kernel) rfl rfl rfl (by decide +kernel)
set_option maxRecDepth 65536 in
theorem w_c2 : (Jvm.Cond.code ({ cls := "java/lang/Object", name := "<init>", desc := "()V" } : Jvm.MethodName) object_method_1_code (1 : Nat) (Option.none : Option Jvm.ClassFile.FieldType)).before args0 about1 = true := code_word (m := ⟨0, 0⟩) (meth := k0m0) (c := k0c0) (by decide +kernel) rfl rfl rfl (by decide +kernel)
set_option maxRecDepth 65536 in
theorem w_c3 : (Jvm.Cond.code ({ cls := "com/example/nuthatch/nuthatch/store/JournalTallyWritesPinLaw", name := "op", desc := "(Lcom/example/nuthatch/nuthatch/store/JournalTally;[I[I[J[J[IIII)V" } : Jvm.MethodName) method_3_code (14 : Nat) (Option.none : Option Jvm.ClassFile.FieldType)).before args0 about1 = true := code_word (m := ⟨1, 2⟩) (meth := k1m2) (c := k1c2) (by decide +kernel) rfl rfl rfl (by decide +kernel)
set_option maxRecDepth 65536 in
theorem w_c4 : (Jvm.Cond.code ({ cls := "com/example/nuthatch/nuthatch/store/JournalTallyWritesPinLaw", name := "kind", desc := "(I)Lcom/example/nuthatch/nuthatch/store/ChangeRecord$Kind;" } : Jvm.MethodName) method_4_code (1 : Nat) (Option.some (Jvm.ClassFile.FieldType.object "com/example/nuthatch/nuthatch/store/ChangeRecord$Kind"))).before args0 about1 = true := code_word (m := ⟨1, 3⟩) (meth := k1m3) (c := k1c3) (by decide +kernel) rfl rfl rfl (by decide +kernel)
set_option maxRecDepth 65536 in
theorem w_c5 : (Jvm.Cond.code ({ cls := "com/example/nuthatch/nuthatch/store/JournalTally", name := "add", desc := "(Lcom/example/nuthatch/nuthatch/store/ChangeRecord$Kind;J)V" } : Jvm.MethodName) prog_42_method_2_code (5 : Nat) (Option.none : Option Jvm.ClassFile.FieldType)).before args0 about1 = true := code_word (m := ⟨2, 1⟩) (meth := k2m1) (c := k2c1) (by decide +kernel) rfl rfl rfl (by decide +kernel)
set_option maxRecDepth 65536 in
theorem w_c6 : (Jvm.Cond.code ({ cls := "com/example/nuthatch/nuthatch/store/JournalTally", name := "creation", desc := "(J)I" } : Jvm.MethodName) prog_42_method_6_code (7 : Nat) (Option.some Jvm.ClassFile.FieldType.int)).before args0 about1 = true := code_word (m := ⟨2, 3⟩) (meth := k2m3) (c := k2c3) (by decide +kernel) rfl rfl rfl (by decide +kernel)
set_option maxRecDepth 65536 in
theorem w_c7 : (Jvm.Cond.code ({ cls := "java/util/Arrays", name := "binarySearch", desc := "([JIIJ)I" } : Jvm.MethodName) jdk_65_method_55_code (5 : Nat) (Option.some Jvm.ClassFile.FieldType.int)).before args0 about1 = true := code_word (m := ⟨8, 2⟩) (meth := k8m2) (c := k8c2) (by decide +kernel) rfl rfl rfl (by decide +kernel)
set_option maxRecDepth 65536 in
theorem w_c8 : (Jvm.Cond.code ({ cls := "java/util/Arrays", name := "rangeCheck", desc := "(III)V" } : Jvm.MethodName) jdk_65_method_30_code (3 : Nat) (Option.none : Option Jvm.ClassFile.FieldType)).before args0 about1 = true := code_word (m := ⟨8, 1⟩) (meth := k8m1) (c := k8c1) (by decide +kernel) rfl rfl rfl (by decide +kernel)
set_option maxRecDepth 65536 in
theorem w_c9 : (Jvm.Cond.code ({ cls := "java/util/Arrays", name := "binarySearch0", desc := "([JIIJ)I" } : Jvm.MethodName) jdk_65_method_56_code (10 : Nat) (Option.some Jvm.ClassFile.FieldType.int)).before args0 about1 = true := code_word (m := ⟨8, 3⟩) (meth := k8m3) (c := k8c3) (by decide +kernel) rfl rfl rfl (by decide +kernel)
set_option maxRecDepth 65536 in
theorem w_c10 : (Jvm.Cond.code ({ cls := "com/example/nuthatch/nuthatch/store/JournalTally", name := "writes", desc := "()I" } : Jvm.MethodName) prog_42_method_3_code (1 : Nat) (Option.some Jvm.ClassFile.FieldType.int)).before args0 about1 = true := code_word (m := ⟨2, 2⟩) (meth := k2m2) (c := k2c2) (by decide +kernel) rfl rfl rfl (by decide +kernel)
def codes1 : List Jvm.Cond := [Jvm.Cond.code x code maxLocals ret, Jvm.Cond.code ({ cls := "com/example/nuthatch/nuthatch/store/JournalTally", name := "<init>", desc := "()V" } : Jvm.MethodName) prog_42_method_1_code (1 : Nat) (Option.none : Option Jvm.ClassFile.FieldType), Jvm.Cond.code ({ cls := "java/lang/Object", name := "<init>", desc := "()V" } : Jvm.MethodName) object_method_1_code (1 : Nat) (Option.none : Option Jvm.ClassFile.FieldType), Jvm.Cond.code ({ cls := "com/example/nuthatch/nuthatch/store/JournalTallyWritesPinLaw", name := "op", desc := "(Lcom/example/nuthatch/nuthatch/store/JournalTally;[I[I[J[J[IIII)V" } : Jvm.MethodName) method_3_code (14 : Nat) (Option.none : Option Jvm.ClassFile.FieldType), Jvm.Cond.code ({ cls := "com/example/nuthatch/nuthatch/store/JournalTallyWritesPinLaw", name := "kind", desc := "(I)Lcom/example/nuthatch/nuthatch/store/ChangeRecord$Kind;" } : Jvm.MethodName) method_4_code (1 : Nat) (Option.some (Jvm.ClassFile.FieldType.object "com/example/nuthatch/nuthatch/store/ChangeRecord$Kind")), Jvm.Cond.code ({ cls := "com/example/nuthatch/nuthatch/store/JournalTally", name := "add", desc := "(Lcom/example/nuthatch/nuthatch/store/ChangeRecord$Kind;J)V" } : Jvm.MethodName) prog_42_method_2_code (5 : Nat) (Option.none : Option Jvm.ClassFile.FieldType), Jvm.Cond.code ({ cls := "com/example/nuthatch/nuthatch/store/JournalTally", name := "creation", desc := "(J)I" } : Jvm.MethodName) prog_42_method_6_code (7 : Nat) (Option.some Jvm.ClassFile.FieldType.int), Jvm.Cond.code ({ cls := "java/util/Arrays", name := "binarySearch", desc := "([JIIJ)I" } : Jvm.MethodName) jdk_65_method_55_code (5 : Nat) (Option.some Jvm.ClassFile.FieldType.int), Jvm.Cond.code ({ cls := "java/util/Arrays", name := "rangeCheck", desc := "(III)V" } : Jvm.MethodName) jdk_65_method_30_code (3 : Nat) (Option.none : Option Jvm.ClassFile.FieldType), Jvm.Cond.code ({ cls := "java/util/Arrays", name := "binarySearch0", desc := "([JIIJ)I" } : Jvm.MethodName) jdk_65_method_56_code (10 : Nat) (Option.some Jvm.ClassFile.FieldType.int), Jvm.Cond.code ({ cls := "com/example/nuthatch/nuthatch/store/JournalTally", name := "writes", desc := "()I" } : Jvm.MethodName) prog_42_method_3_code (1 : Nat) (Option.some Jvm.ClassFile.FieldType.int)]
set_option maxRecDepth 65536 in
theorem codes_eq : words1.filter isCode = codes1 := rfl
theorem w_codes : ∀ c ∈ words1.filter isCode, c.before args0 about1 = true := by
  rw [codes_eq]
  intro c hc
  simp only [codes1, List.mem_cons, List.not_mem_nil, or_false] at hc
  rcases hc with rfl | rfl | rfl | rfl | rfl | rfl | rfl | rfl | rfl | rfl | rfl
  · exact w_c0
  · exact w_c1
  · exact w_c2
  · exact w_c3
  · exact w_c4
  · exact w_c5
  · exact w_c6
  · exact w_c7
  · exact w_c8
  · exact w_c9
  · exact w_c10
set_option maxRecDepth 65536 in
theorem w_t1 : (words1.take 24).all (fun c => isCode c || c.before args0 about1) = true := by decide +kernel
set_option maxRecDepth 65536 in
theorem w_t2 : ((words1.drop 24).take 24).all (fun c => isCode c || c.before args0 about1) = true := by decide +kernel
set_option maxRecDepth 65536 in
theorem w_t3 : ((words1.drop 24).drop 24).all (fun c => isCode c || c.before args0 about1) = true := by decide +kernel
theorem w_tables : (allAtoms (Jvm.Cond.code x code maxLocals ret :: tables_1)).before args0 about1 = true := by
  rw [allAtoms_all]
  show words1.all (fun c => c.before args0 about1) = true
  refine all_split ?_ w_codes
  rw [← List.take_append_drop 24 words1, List.all_append, w_t1, ← List.take_append_drop 24 (words1.drop 24), List.all_append, w_t2, w_t3]
  rfl
set_option maxRecDepth 65536 in
theorem w_case : (Jvm.Cond.and given_1 narrow_1).before args0 about1 = true := by decide +kernel
theorem w_applies : (headSpec (Jvm.Cond.code x code maxLocals ret :: tables_1) room_1).applies x e0.platform about1 = true :=
  (Spec.applies_iff w_frames).mpr ⟨w_running, w_runnable, w_alone, w_named, w_hears, w_ripe, w_room, w_tables⟩
theorem atStart : AtStart classFile x code maxLocals ret World_1 tables_1 room_1 Calls_1 rest_1 Pre_1 launch0 p0 e0 about1 theMethod args0 below0 :=
  ⟨lists_1, trivial, launch0.admits_env _ _ _, launch0.least_env, fairChoices_fair.cas, fairChoices_fair.clock, w_frames, w_args, w_heap, w_applies, trivial, trivial, w_case⟩
end start1
theorem witness_1 : WitnessClaimed_1 := ⟨start1.p0, start1.e0, start1.about1, start1.theMethod, start1.args0, start1.below0, start1.atStart⟩
end Jvm.Pilot.@@N@@
