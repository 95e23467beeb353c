import JvmDerived
import JvmDerived.Pilot.@@N@@Statement
import JvmDerived.Pilot.@@N@@Code
set_option linter.unusedVariables false
set_option linter.unusedSimpArgs false
namespace Jvm.RoadKit
open Sem ClassFile Op Lib Jvm.Stand Jvm.Free Jvm.LawKit
section New
variable {p : Program} {l : Launch} {e : Env} {R : Room} {s : State} {m : MethodId} {args : Array Value} {below : List Frame} {meth : Method} {c : Code} {T : State} {locs : List Loc} {cells slots : Nat}
theorem retI (X : Stand p l e R s m args below meth c T locs cells slots) (hx : p.tables.exec = Jvm.exec) {pc : Nat} {Ls : Array Slot} {z : Int32} {rest : List Value} (hret : meth.sig.returnType = some .int) (hd : decode c.code pc = .ok (.ireturn, 1)) {fs : List Frame}
    (hl : ∀ (f : JFrame) (acts : List Action), f.method = m → f.locked = none → f.entered = [] → (doReturn e (T.setTop f) acts (some (.int z))).1 = T.setFrames fs) : Steps p.tables e below (T.setTop (mkF m pc Ls (.int z :: rest))) (T.setFrames fs) := by
  have hm' : T.vm.method? m = some meth := X.method'
  have hn : narrow .int (.int z) = .int z := rfl
  show Steps p.tables e below (T.setTop { method := m, pc := pc, locals := Ls, stack := _ :: rest, locked := none }) _
  jvm_step X.here [X.here.top, hx, hd, hm', hret, hn]
  first | (intro acts; rw [hl _ acts rfl rfl rfl]) | rw [hl _ _ rfl rfl rfl]
  exact Steps.refl _
end New
end Jvm.RoadKit
namespace Jvm.Pilot.@@N@@
open Jvm Jvm.ClassFile Sem Op Lib Jvm.Free Jvm.Stand Jvm.LawKit Jvm.RoadKit Bundle Jvm.Pilot.@@N@@.Jvm.D
/-! ## Go: a walk as a proposition, read backwards -/
def Cx (p : Program) (s : State) (m : MethodId) (meth : Method) (c : Code) (Z : State) (own nm : String) (code : ByteArray) (ml : Nat) (ret : Option FieldType) : Prop :=
  p.tables.exec = Jvm.exec ∧ c.code = code ∧ c.maxLocals = ml ∧ s.vm.findClass own = some m.cls ∧ Z.Warmed39 s.vm ∧ meth.name = nm ∧ meth.sig.returnType = ret ∧ meth.locks = false
def Go (p : Program) (l : Launch) (e : Env) (R : Room) (s : State) (m : MethodId) (args : Array Value) (below : List Frame) (meth : Method) (c : Code) (Ph : State → Option Value → Prop) (n0 : Nat) (h : Heap) (k n : Nat) (pc : Nat) (Ls : Array Slot) (st : List Value) : Prop :=
  ∀ T locs, Stand p l e R s m args below meth c T locs k n → Fr n0 locs → T.heap = h → ∃ s₂ v, Steps p.tables e below (T.setTop (mkF m pc Ls st)) s₂ ∧ Ph s₂ v
section GoRules
variable {p : Program} {l : Launch} {e : Env} {R : Room} {s : State} {m : MethodId} {args : Array Value} {below : List Frame} {meth : Method} {c : Code} {Ph : State → Option Value → Prop} {n0 : Nat} {h : Heap} {k n : Nat} {pc q : Nat} {Ls : Array Slot} {st rest : List Value} {Z : State} {a0 : Array Value} {own nm : String} {code : ByteArray} {ml : Nat} {ret : Option FieldType}
theorem Go.pl {pc' : Nat} {Ls' : Array Slot} {st' : List Value} (H : ∀ (T target : State), At T m c below → Steps p.tables e below (T.setTop (mkF m pc' Ls' st')) target → Steps p.tables e below (T.setTop (mkF m pc Ls st)) target) (K : Go p l e R s m args below meth c Ph n0 h k n pc' Ls' st') : Go p l e R s m args below meth c Ph n0 h k n pc Ls st :=
  fun T locs X N eT => by obtain ⟨s₂, v, S, r⟩ := K T locs X N eT; exact ⟨s₂, v, H T s₂ X.here S, r⟩
theorem Go.more {k' n' : Nat} (hk : k ≤ k') (hn : n ≤ n') (K : Go p l e R s m args below meth c Ph n0 h k' n' pc Ls st) : Go p l e R s m args below meth c Ph n0 h k n pc Ls st := fun T locs X N eT => K T locs (X.loosen hk hn) N eT
theorem Go.low {n1 : Nat} (hn : n0 ≤ n1) (K : Go p l e R s m args below meth c Ph n0 h k n pc Ls st) : Go p l e R s m args below meth c Ph n1 h k n pc Ls st := fun T locs X N eT => K T locs X (fun y hy => Nat.le_trans hn (N y hy)) eT
theorem Go.join {pc' : Nat} {Ls' : Array Slot} {st' : List Value} (J : Go p l e R s m args below meth c Ph n0 h k n pc' Ls' st') (K : Go p l e R s m args below meth c Ph n0 h k n pc' Ls' st' → Go p l e R s m args below meth c Ph n0 h k n pc Ls st) : Go p l e R s m args below meth c Ph n0 h k n pc Ls st := K J
theorem Go.joinR {α : Sort _} {pc' : Nat} (P' : α → Prop) (Ls' : α → Array Slot) (st' : α → List Value) (J : ∀ r, P' r → Go p l e R s m args below meth c Ph n0 h k n pc' (Ls' r) (st' r)) (K : (∀ r, P' r → Go p l e R s m args below meth c Ph n0 h k n pc' (Ls' r) (st' r)) → Go p l e R s m args below meth c Ph n0 h k n pc Ls st) : Go p l e R s m args below meth c Ph n0 h k n pc Ls st := K J
theorem Go.cast {pc' : Nat} {Ls' : Array Slot} {st' : List Value} (e1 : pc' = pc) (e2 : Ls' = Ls) (e3 : st' = st) (K : Go p l e R s m args below meth c Ph n0 h k n pc' Ls' st') : Go p l e R s m args below meth c Ph n0 h k n pc Ls st := by subst e1 e2 e3; exact K
theorem g_iloadN (C : Cx p s m meth c Z own nm code ml ret) {i : Fin 4} {v : Int32} (d : decode code pc = .ok (.iload_n i, 1)) (hl : Ls[i.val]? = some (.val (.int v))) (hq : pc + 1 = q) (K : Go p l e R s m args below meth c Ph n0 h k n q Ls (.int v :: st)) : Go p l e R s m args below meth c Ph n0 h k n pc Ls (st) :=
  Go.pl (fun T t A S => XS.iloadN A C.1 rfl (hb C.2.1 d) hl (by subst hq; exact S)) K
theorem g_iload (C : Cx p s m meth c Z own nm code ml ret) {i : Nat} {v : Int32} (d : decode code pc = .ok (.iload i, 2)) (hl : Ls[i]? = some (.val (.int v))) (hq : pc + 2 = q) (K : Go p l e R s m args below meth c Ph n0 h k n q Ls (.int v :: st)) : Go p l e R s m args below meth c Ph n0 h k n pc Ls (st) :=
  Go.pl (fun T t A S => XS.iload A C.1 rfl (hb C.2.1 d) hl (by subst hq; exact S)) K
theorem g_istoreN (C : Cx p s m meth c Z own nm code ml ret) {i : Fin 4} {v : Int32} {L' : Array Slot} (d : decode code pc = .ok (.istore_n i, 1))  (hl : storeLocals Ls i.val (.int v) = some L') (hq : pc + 1 = q) (K : Go p l e R s m args below meth c Ph n0 h k n q L' (st)) : Go p l e R s m args below meth c Ph n0 h k n pc Ls (.int v :: st) :=
  Go.pl (fun T t A S => XS.istoreN A C.1 rfl (hb C.2.1 d) rfl hl (by subst hq; exact S)) K
theorem g_istore (C : Cx p s m meth c Z own nm code ml ret) {i : Nat} {v : Int32} {L' : Array Slot} (d : decode code pc = .ok (.istore i, 2))  (hl : storeLocals Ls i (.int v) = some L') (hq : pc + 2 = q) (K : Go p l e R s m args below meth c Ph n0 h k n q L' (st)) : Go p l e R s m args below meth c Ph n0 h k n pc Ls (.int v :: st) :=
  Go.pl (fun T t A S => XS.istore A C.1 rfl (hb C.2.1 d) rfl hl (by subst hq; exact S)) K
theorem g_lloadN (C : Cx p s m meth c Z own nm code ml ret) {i : Fin 4} {v : Int64} (d : decode code pc = .ok (.lload_n i, 1)) (hl : Ls[i.val]? = some (.val (.long v))) (hq : pc + 1 = q) (K : Go p l e R s m args below meth c Ph n0 h k n q Ls (.long v :: st)) : Go p l e R s m args below meth c Ph n0 h k n pc Ls (st) :=
  Go.pl (fun T t A S => XT.lloadN A C.1 rfl (hb C.2.1 d) hl (by subst hq; exact S)) K
theorem g_lload (C : Cx p s m meth c Z own nm code ml ret) {i : Nat} {v : Int64} (d : decode code pc = .ok (.lload i, 2)) (hl : Ls[i]? = some (.val (.long v))) (hq : pc + 2 = q) (K : Go p l e R s m args below meth c Ph n0 h k n q Ls (.long v :: st)) : Go p l e R s m args below meth c Ph n0 h k n pc Ls (st) :=
  Go.pl (fun T t A S => XT.lload A C.1 rfl (hb C.2.1 d) hl (by subst hq; exact S)) K
theorem g_lstoreN (C : Cx p s m meth c Z own nm code ml ret) {i : Fin 4} {v : Int64} {L' : Array Slot} (d : decode code pc = .ok (.lstore_n i, 1))  (hl : storeLocals Ls i.val (.long v) = some L') (hq : pc + 1 = q) (K : Go p l e R s m args below meth c Ph n0 h k n q L' (st)) : Go p l e R s m args below meth c Ph n0 h k n pc Ls (.long v :: st) :=
  Go.pl (fun T t A S => XT.lstoreN A C.1 rfl (hb C.2.1 d) rfl hl (by subst hq; exact S)) K
theorem g_lstore (C : Cx p s m meth c Z own nm code ml ret) {i : Nat} {v : Int64} {L' : Array Slot} (d : decode code pc = .ok (.lstore i, 2))  (hl : storeLocals Ls i (.long v) = some L') (hq : pc + 2 = q) (K : Go p l e R s m args below meth c Ph n0 h k n q L' (st)) : Go p l e R s m args below meth c Ph n0 h k n pc Ls (.long v :: st) :=
  Go.pl (fun T t A S => XT.lstore A C.1 rfl (hb C.2.1 d) rfl hl (by subst hq; exact S)) K
theorem g_aloadN (C : Cx p s m meth c Z own nm code ml ret) {i : Fin 4} {v : Value} (d : decode code pc = .ok (.aload_n i, 1)) (hl : Ls[i.val]? = some (.val v)) (hv : v.isRef = true) (hq : pc + 1 = q) (K : Go p l e R s m args below meth c Ph n0 h k n q Ls (v :: st)) : Go p l e R s m args below meth c Ph n0 h k n pc Ls (st) :=
  Go.pl (fun T t A S => XS.aloadN A C.1 rfl (hb C.2.1 d) hl hv (by subst hq; exact S)) K
theorem g_aload (C : Cx p s m meth c Z own nm code ml ret) {i : Nat} {v : Value} (d : decode code pc = .ok (.aload i, 2)) (hl : Ls[i]? = some (.val v)) (hv : v.isRef = true) (hq : pc + 2 = q) (K : Go p l e R s m args below meth c Ph n0 h k n q Ls (v :: st)) : Go p l e R s m args below meth c Ph n0 h k n pc Ls (st) :=
  Go.pl (fun T t A S => XS.aload A C.1 rfl (hb C.2.1 d) hl hv (by subst hq; exact S)) K
theorem g_astoreN (C : Cx p s m meth c Z own nm code ml ret) {i : Fin 4} {v : Value} {L' : Array Slot} (d : decode code pc = .ok (.astore_n i, 1))  (hv : v.isRef = true) (hl : storeLocals Ls i.val (v) = some L') (hq : pc + 1 = q) (K : Go p l e R s m args below meth c Ph n0 h k n q L' (st)) : Go p l e R s m args below meth c Ph n0 h k n pc Ls (v :: st) :=
  Go.pl (fun T t A S => XS.astoreN A C.1 rfl (hb C.2.1 d) rfl hv hl (by subst hq; exact S)) K
theorem g_astore (C : Cx p s m meth c Z own nm code ml ret) {i : Nat} {v : Value} {L' : Array Slot} (d : decode code pc = .ok (.astore i, 2))  (hv : v.isRef = true) (hl : storeLocals Ls i (v) = some L') (hq : pc + 2 = q) (K : Go p l e R s m args below meth c Ph n0 h k n q L' (st)) : Go p l e R s m args below meth c Ph n0 h k n pc Ls (v :: st) :=
  Go.pl (fun T t A S => XS.astore A C.1 rfl (hb C.2.1 d) rfl hv hl (by subst hq; exact S)) K
theorem g_iinc (C : Cx p s m meth c Z own nm code ml ret) {i : Nat} {cst : Int} {v : Int32} {L' : Array Slot} (d : decode code pc = .ok (.iinc i cst, 3)) (hl : Ls[i]? = some (.val (.int v))) (hl' : storeLocals Ls i (.int (v + Int32.ofInt cst)) = some L') (hq : pc + 3 = q) (K : Go p l e R s m args below meth c Ph n0 h k n q L' (st)) : Go p l e R s m args below meth c Ph n0 h k n pc Ls (st) :=
  Go.pl (fun T t A S => XS.iinc A C.1 rfl (hb C.2.1 d) hl hl' (by subst hq; exact S)) K
theorem g_iconst (C : Cx p s m meth c Z own nm code ml ret) {i : Int} {z : Int32} (d : decode code pc = .ok (.iconst i, 1)) (hz : Int32.ofInt i = z) (hq : pc + 1 = q) (K : Go p l e R s m args below meth c Ph n0 h k n q Ls (.int z :: st)) : Go p l e R s m args below meth c Ph n0 h k n pc Ls st :=
  Go.pl (fun T t A S => XS.iconst A C.1 rfl (hb C.2.1 d) (by subst hq hz; exact S)) K
theorem g_bipush (C : Cx p s m meth c Z own nm code ml ret) {i : Int} {z : Int32} (d : decode code pc = .ok (.bipush i, 2)) (hz : (Int8.ofInt i).toInt32 = z) (hq : pc + 2 = q) (K : Go p l e R s m args below meth c Ph n0 h k n q Ls (.int z :: st)) : Go p l e R s m args below meth c Ph n0 h k n pc Ls st :=
  Go.pl (fun T t A S => XS.bipush A C.1 rfl (hb C.2.1 d) (by subst hq hz; exact S)) K
theorem g_sipush (C : Cx p s m meth c Z own nm code ml ret) {i : Int} {z : Int32} (d : decode code pc = .ok (.sipush i, 3)) (hz : (Int16.ofInt i).toInt32 = z) (hq : pc + 3 = q) (K : Go p l e R s m args below meth c Ph n0 h k n q Ls (.int z :: st)) : Go p l e R s m args below meth c Ph n0 h k n pc Ls st :=
  Go.pl (fun T t A S => XS.sipush A C.1 rfl (hb C.2.1 d) (by subst hq hz; exact S)) K
theorem g_lconst (C : Cx p s m meth c Z own nm code ml ret) {i : Fin 2} {z : Int64} (d : decode code pc = .ok (.lconst i, 1)) (hz : Int64.ofNat i = z) (hq : pc + 1 = q) (K : Go p l e R s m args below meth c Ph n0 h k n q Ls (.long z :: st)) : Go p l e R s m args below meth c Ph n0 h k n pc Ls st :=
  Go.pl (fun T t A S => XT.lconst A C.1 rfl (hb C.2.1 d) (by subst hq hz; exact S)) K
theorem g_aconst_null (C : Cx p s m meth c Z own nm code ml ret)  (d : decode code pc = .ok (.aconst_null, 1))  (hq : pc + 1 = q) (K : Go p l e R s m args below meth c Ph n0 h k n q Ls (.null :: st)) : Go p l e R s m args below meth c Ph n0 h k n pc Ls (st) :=
  Go.pl (fun T t A S => XS.aconstNull A C.1 rfl (hb C.2.1 d)  (by subst hq; exact S)) K
theorem g_dup (C : Cx p s m meth c Z own nm code ml ret) {x : Value} (d : decode code pc = .ok (.dup, 1)) (hc : x.category = 1) (hq : pc + 1 = q) (K : Go p l e R s m args below meth c Ph n0 h k n q Ls (x :: x :: st)) : Go p l e R s m args below meth c Ph n0 h k n pc Ls (x :: st) :=
  Go.pl (fun T t A S => XS.dup A C.1 rfl (hb C.2.1 d) rfl hc (by subst hq; exact S)) K
theorem g_pop (C : Cx p s m meth c Z own nm code ml ret) {x : Value} (d : decode code pc = .ok (.pop, 1)) (hc : x.category = 1) (hq : pc + 1 = q) (K : Go p l e R s m args below meth c Ph n0 h k n q Ls (st)) : Go p l e R s m args below meth c Ph n0 h k n pc Ls (x :: st) :=
  Go.pl (fun T t A S => XT.pop A C.1 rfl (hb C.2.1 d) rfl hc (by subst hq; exact S)) K
theorem g_dup_x1 (C : Cx p s m meth c Z own nm code ml ret) {x y : Value} (d : decode code pc = .ok (.dup_x1, 1)) (hc : x.category = 1) (hc' : y.category = 1) (hq : pc + 1 = q) (K : Go p l e R s m args below meth c Ph n0 h k n q Ls (x :: y :: x :: st)) : Go p l e R s m args below meth c Ph n0 h k n pc Ls (x :: y :: st) :=
  Go.pl (fun T t A S => XT.dupX1 A C.1 rfl (hb C.2.1 d) rfl hc hc' (by subst hq; exact S)) K
theorem g_dup2 (C : Cx p s m meth c Z own nm code ml ret) {x y : Value} (d : decode code pc = .ok (.dup2, 1)) (hc : x.category = 1) (hc' : y.category = 1) (hq : pc + 1 = q) (K : Go p l e R s m args below meth c Ph n0 h k n q Ls (x :: y :: x :: y :: st)) : Go p l e R s m args below meth c Ph n0 h k n pc Ls (x :: y :: st) :=
  Go.pl (fun T t A S => XT.dup2 A C.1 rfl (hb C.2.1 d) rfl hc hc' (by subst hq; exact S)) K
theorem g_dup2L (C : Cx p s m meth c Z own nm code ml ret) {x : Int64} (d : decode code pc = .ok (.dup2, 1))  (hq : pc + 1 = q) (K : Go p l e R s m args below meth c Ph n0 h k n q Ls (.long x :: .long x :: st)) : Go p l e R s m args below meth c Ph n0 h k n pc Ls (.long x :: st) :=
  Go.pl (fun T t A S => XT.dup2L A C.1 rfl (hb C.2.1 d) rfl (by subst hq; exact S)) K
theorem g_iadd (C : Cx p s m meth c Z own nm code ml ret) {x y : Int32} (d : decode code pc = .ok (.iadd, 1))  (hq : pc + 1 = q) (K : Go p l e R s m args below meth c Ph n0 h k n q Ls (.int (x + y) :: st)) : Go p l e R s m args below meth c Ph n0 h k n pc Ls (.int y :: .int x :: st) :=
  Go.pl (fun T t A S => XS.iadd A C.1 rfl (hb C.2.1 d) rfl (by subst hq; exact S)) K
theorem g_isub (C : Cx p s m meth c Z own nm code ml ret) {x y : Int32} (d : decode code pc = .ok (.isub, 1))  (hq : pc + 1 = q) (K : Go p l e R s m args below meth c Ph n0 h k n q Ls (.int (x - y) :: st)) : Go p l e R s m args below meth c Ph n0 h k n pc Ls (.int y :: .int x :: st) :=
  Go.pl (fun T t A S => XS.isub A C.1 rfl (hb C.2.1 d) rfl (by subst hq; exact S)) K
theorem g_imul (C : Cx p s m meth c Z own nm code ml ret) {x y : Int32} (d : decode code pc = .ok (.imul, 1))  (hq : pc + 1 = q) (K : Go p l e R s m args below meth c Ph n0 h k n q Ls (.int (x * y) :: st)) : Go p l e R s m args below meth c Ph n0 h k n pc Ls (.int y :: .int x :: st) :=
  Go.pl (fun T t A S => XS.imul A C.1 rfl (hb C.2.1 d) rfl (by subst hq; exact S)) K
theorem g_iand (C : Cx p s m meth c Z own nm code ml ret) {x y : Int32} (d : decode code pc = .ok (.iand, 1))  (hq : pc + 1 = q) (K : Go p l e R s m args below meth c Ph n0 h k n q Ls (.int (x &&& y) :: st)) : Go p l e R s m args below meth c Ph n0 h k n pc Ls (.int y :: .int x :: st) :=
  Go.pl (fun T t A S => XS.iand A C.1 rfl (hb C.2.1 d) rfl (by subst hq; exact S)) K
theorem g_ior (C : Cx p s m meth c Z own nm code ml ret) {x y : Int32} (d : decode code pc = .ok (.ior, 1))  (hq : pc + 1 = q) (K : Go p l e R s m args below meth c Ph n0 h k n q Ls (.int (x ||| y) :: st)) : Go p l e R s m args below meth c Ph n0 h k n pc Ls (.int y :: .int x :: st) :=
  Go.pl (fun T t A S => XT.ior A C.1 rfl (hb C.2.1 d) rfl (by subst hq; exact S)) K
theorem g_ixor (C : Cx p s m meth c Z own nm code ml ret) {x y : Int32} (d : decode code pc = .ok (.ixor, 1))  (hq : pc + 1 = q) (K : Go p l e R s m args below meth c Ph n0 h k n q Ls (.int (x ^^^ y) :: st)) : Go p l e R s m args below meth c Ph n0 h k n pc Ls (.int y :: .int x :: st) :=
  Go.pl (fun T t A S => XT.ixor A C.1 rfl (hb C.2.1 d) rfl (by subst hq; exact S)) K
theorem g_ishl (C : Cx p s m meth c Z own nm code ml ret) {x y : Int32} (d : decode code pc = .ok (.ishl, 1))  (hq : pc + 1 = q) (K : Go p l e R s m args below meth c Ph n0 h k n q Ls (.int (x <<< (y &&& 31)) :: st)) : Go p l e R s m args below meth c Ph n0 h k n pc Ls (.int y :: .int x :: st) :=
  Go.pl (fun T t A S => XT.ishl A C.1 rfl (hb C.2.1 d) rfl (by subst hq; exact S)) K
theorem g_ishr (C : Cx p s m meth c Z own nm code ml ret) {x y : Int32} (d : decode code pc = .ok (.ishr, 1))  (hq : pc + 1 = q) (K : Go p l e R s m args below meth c Ph n0 h k n q Ls (.int (x >>> (y &&& 31)) :: st)) : Go p l e R s m args below meth c Ph n0 h k n pc Ls (.int y :: .int x :: st) :=
  Go.pl (fun T t A S => XT.ishr A C.1 rfl (hb C.2.1 d) rfl (by subst hq; exact S)) K
theorem g_iushr (C : Cx p s m meth c Z own nm code ml ret) {x y : Int32} (d : decode code pc = .ok (.iushr, 1))  (hq : pc + 1 = q) (K : Go p l e R s m args below meth c Ph n0 h k n q Ls (.int (XT.ushr x y) :: st)) : Go p l e R s m args below meth c Ph n0 h k n pc Ls (.int y :: .int x :: st) :=
  Go.pl (fun T t A S => XT.iushr A C.1 rfl (hb C.2.1 d) rfl (by subst hq; exact S)) K
theorem g_idiv (C : Cx p s m meth c Z own nm code ml ret) {x y : Int32} (d : decode code pc = .ok (.idiv, 1)) (hy : y ≠ 0) (hq : pc + 1 = q) (K : Go p l e R s m args below meth c Ph n0 h k n q Ls (.int (x / y) :: st)) : Go p l e R s m args below meth c Ph n0 h k n pc Ls (.int y :: .int x :: st) :=
  Go.pl (fun T t A S => XS.idiv A C.1 rfl (hb C.2.1 d) rfl hy (by subst hq; exact S)) K
theorem g_irem (C : Cx p s m meth c Z own nm code ml ret) {x y : Int32} (d : decode code pc = .ok (.irem, 1)) (hy : y ≠ 0) (hq : pc + 1 = q) (K : Go p l e R s m args below meth c Ph n0 h k n q Ls (.int (x % y) :: st)) : Go p l e R s m args below meth c Ph n0 h k n pc Ls (.int y :: .int x :: st) :=
  Go.pl (fun T t A S => XS.irem A C.1 rfl (hb C.2.1 d) rfl hy (by subst hq; rw [irem_eq_mod x y]; exact S)) K
theorem g_ineg (C : Cx p s m meth c Z own nm code ml ret) {x : Int32} (d : decode code pc = .ok (.ineg, 1))  (hq : pc + 1 = q) (K : Go p l e R s m args below meth c Ph n0 h k n q Ls (.int (-x) :: st)) : Go p l e R s m args below meth c Ph n0 h k n pc Ls (.int x :: st) :=
  Go.pl (fun T t A S => XS.ineg A C.1 rfl (hb C.2.1 d) rfl (by subst hq; exact S)) K
theorem g_ladd (C : Cx p s m meth c Z own nm code ml ret) {x y : Int64} (d : decode code pc = .ok (.ladd, 1))  (hq : pc + 1 = q) (K : Go p l e R s m args below meth c Ph n0 h k n q Ls (.long (x + y) :: st)) : Go p l e R s m args below meth c Ph n0 h k n pc Ls (.long y :: .long x :: st) :=
  Go.pl (fun T t A S => XT.ladd A C.1 rfl (hb C.2.1 d) rfl (by subst hq; exact S)) K
theorem g_lsub (C : Cx p s m meth c Z own nm code ml ret) {x y : Int64} (d : decode code pc = .ok (.lsub, 1))  (hq : pc + 1 = q) (K : Go p l e R s m args below meth c Ph n0 h k n q Ls (.long (x - y) :: st)) : Go p l e R s m args below meth c Ph n0 h k n pc Ls (.long y :: .long x :: st) :=
  Go.pl (fun T t A S => XT.lsub A C.1 rfl (hb C.2.1 d) rfl (by subst hq; exact S)) K
theorem g_lmul (C : Cx p s m meth c Z own nm code ml ret) {x y : Int64} (d : decode code pc = .ok (.lmul, 1))  (hq : pc + 1 = q) (K : Go p l e R s m args below meth c Ph n0 h k n q Ls (.long (x * y) :: st)) : Go p l e R s m args below meth c Ph n0 h k n pc Ls (.long y :: .long x :: st) :=
  Go.pl (fun T t A S => XT.lmul A C.1 rfl (hb C.2.1 d) rfl (by subst hq; exact S)) K
theorem g_land (C : Cx p s m meth c Z own nm code ml ret) {x y : Int64} (d : decode code pc = .ok (.land, 1))  (hq : pc + 1 = q) (K : Go p l e R s m args below meth c Ph n0 h k n q Ls (.long (x &&& y) :: st)) : Go p l e R s m args below meth c Ph n0 h k n pc Ls (.long y :: .long x :: st) :=
  Go.pl (fun T t A S => XT.land A C.1 rfl (hb C.2.1 d) rfl (by subst hq; exact S)) K
theorem g_lor (C : Cx p s m meth c Z own nm code ml ret) {x y : Int64} (d : decode code pc = .ok (.lor, 1))  (hq : pc + 1 = q) (K : Go p l e R s m args below meth c Ph n0 h k n q Ls (.long (x ||| y) :: st)) : Go p l e R s m args below meth c Ph n0 h k n pc Ls (.long y :: .long x :: st) :=
  Go.pl (fun T t A S => XT.lor A C.1 rfl (hb C.2.1 d) rfl (by subst hq; exact S)) K
theorem g_lxor (C : Cx p s m meth c Z own nm code ml ret) {x y : Int64} (d : decode code pc = .ok (.lxor, 1))  (hq : pc + 1 = q) (K : Go p l e R s m args below meth c Ph n0 h k n q Ls (.long (x ^^^ y) :: st)) : Go p l e R s m args below meth c Ph n0 h k n pc Ls (.long y :: .long x :: st) :=
  Go.pl (fun T t A S => XT.lxor A C.1 rfl (hb C.2.1 d) rfl (by subst hq; exact S)) K
theorem g_lushr (C : Cx p s m meth c Z own nm code ml ret) {x : Int64} {y : Int32} (d : decode code pc = .ok (.lushr, 1))  (hq : pc + 1 = q) (K : Go p l e R s m args below meth c Ph n0 h k n q Ls (.long (XT.ushrL x y) :: st)) : Go p l e R s m args below meth c Ph n0 h k n pc Ls (.int y :: .long x :: st) :=
  Go.pl (fun T t A S => XT.lushr A C.1 rfl (hb C.2.1 d) rfl (by subst hq; exact S)) K
theorem g_lcmp (C : Cx p s m meth c Z own nm code ml ret) {x y : Int64} (d : decode code pc = .ok (.lcmp, 1))  (hq : pc + 1 = q) (K : Go p l e R s m args below meth c Ph n0 h k n q Ls (.int (XT.cmpL x y) :: st)) : Go p l e R s m args below meth c Ph n0 h k n pc Ls (.long y :: .long x :: st) :=
  Go.pl (fun T t A S => XT.lcmp A C.1 rfl (hb C.2.1 d) rfl (by subst hq; exact S)) K
theorem g_i2l (C : Cx p s m meth c Z own nm code ml ret) {x : Int32} (d : decode code pc = .ok (.i2l, 1))  (hq : pc + 1 = q) (K : Go p l e R s m args below meth c Ph n0 h k n q Ls (.long (x.toInt64) :: st)) : Go p l e R s m args below meth c Ph n0 h k n pc Ls (.int x :: st) :=
  Go.pl (fun T t A S => XT.i2l A C.1 rfl (hb C.2.1 d) rfl (by subst hq; exact S)) K
theorem g_l2i (C : Cx p s m meth c Z own nm code ml ret) {x : Int64} (d : decode code pc = .ok (.l2i, 1))  (hq : pc + 1 = q) (K : Go p l e R s m args below meth c Ph n0 h k n q Ls (.int (x.toInt32) :: st)) : Go p l e R s m args below meth c Ph n0 h k n pc Ls (.long x :: st) :=
  Go.pl (fun T t A S => XT.l2i A C.1 rfl (hb C.2.1 d) rfl (by subst hq; exact S)) K
theorem g_i2b (C : Cx p s m meth c Z own nm code ml ret) {x : Int32} (d : decode code pc = .ok (.i2b, 1))  (hq : pc + 1 = q) (K : Go p l e R s m args below meth c Ph n0 h k n q Ls (.int (x.toInt8.toInt32) :: st)) : Go p l e R s m args below meth c Ph n0 h k n pc Ls (.int x :: st) :=
  Go.pl (fun T t A S => XT.i2b A C.1 rfl (hb C.2.1 d) rfl (by subst hq; exact S)) K
theorem g_i2c (C : Cx p s m meth c Z own nm code ml ret) {x : Int32} (d : decode code pc = .ok (.i2c, 1))  (hq : pc + 1 = q) (K : Go p l e R s m args below meth c Ph n0 h k n q Ls (.int (x.toUInt32.toUInt16.toUInt32.toInt32) :: st)) : Go p l e R s m args below meth c Ph n0 h k n pc Ls (.int x :: st) :=
  Go.pl (fun T t A S => XT.i2c A C.1 rfl (hb C.2.1 d) rfl (by subst hq; exact S)) K
theorem g_i2s (C : Cx p s m meth c Z own nm code ml ret) {x : Int32} (d : decode code pc = .ok (.i2s, 1))  (hq : pc + 1 = q) (K : Go p l e R s m args below meth c Ph n0 h k n q Ls (.int (x.toInt16.toInt32) :: st)) : Go p l e R s m args below meth c Ph n0 h k n pc Ls (.int x :: st) :=
  Go.pl (fun T t A S => XT.i2s A C.1 rfl (hb C.2.1 d) rfl (by subst hq; exact S)) K
theorem g_goto (C : Cx p s m meth c Z own nm code ml ret) {o : Int} (d : decode code pc = .ok (.goto o, 3)) (ho : 0 ≤ (pc : Int) + o) (hq : ((pc : Int) + o).toNat = q) (K : Go p l e R s m args below meth c Ph n0 h k n q Ls st) : Go p l e R s m args below meth c Ph n0 h k n pc Ls st :=
  Go.pl (fun T t A S => XS.goto A C.1 rfl rfl (hb C.2.1 d) ho hq S) K
theorem g_tswIn (C : Cx p s m meth c Z own nm code ml ret) {dflt low high : Int} {offs : Array Int} {len : Nat} {o : Int} {i : Int32} (d : decode code pc = .ok (.tableswitch dflt low high offs, len)) (hin : ¬ (i.toInt < low ∨ i.toInt > high)) (hoff : offs[(i.toInt - low).toNat]? = some o) (ho : 0 ≤ (pc : Int) + o) (hq : ((pc : Int) + o).toNat = q) (K : Go p l e R s m args below meth c Ph n0 h k n q Ls st) : Go p l e R s m args below meth c Ph n0 h k n pc Ls (.int i :: st) :=
  Go.pl (fun T t A S => XS.tswIn A C.1 rfl rfl (hb C.2.1 d) rfl hin hoff ho hq S) K
theorem g_if (C : Cx p s m meth c Z own nm code ml ret) {cd : ClassFile.Cond} {x : Int32} {o : Int} {q' : Nat} (d : decode code pc = .ok (.ifCond cd o, 3)) (ho : 0 ≤ (pc : Int) + o) (hq' : ((pc : Int) + o).toNat = q') (hq : pc + 3 = q)
    (K1 : ifCond.holds cd x = true → Go p l e R s m args below meth c Ph n0 h k n q' Ls st) (K2 : ifCond.holds cd x = false → Go p l e R s m args below meth c Ph n0 h k n q Ls st) : Go p l e R s m args below meth c Ph n0 h k n pc Ls (.int x :: st) := by
  cases hb' : ifCond.holds cd x
  · exact Go.pl (fun T t A S => XS.ifNo A C.1 rfl (hb C.2.1 d) rfl hb' (by subst hq; exact S)) (K2 hb')
  · exact Go.pl (fun T t A S => XS.ifYes A C.1 rfl rfl (hb C.2.1 d) rfl hb' ho hq' S) (K1 hb')
theorem g_icmp (C : Cx p s m meth c Z own nm code ml ret) {cd : ClassFile.Cond} {x y : Int32} {o : Int} {q' : Nat} (d : decode code pc = .ok (.if_icmp cd o, 3)) (ho : 0 ≤ (pc : Int) + o) (hq' : ((pc : Int) + o).toNat = q') (hq : pc + 3 = q)
    (K1 : if_icmp.holds cd x y = true → Go p l e R s m args below meth c Ph n0 h k n q' Ls st) (K2 : if_icmp.holds cd x y = false → Go p l e R s m args below meth c Ph n0 h k n q Ls st) : Go p l e R s m args below meth c Ph n0 h k n pc Ls (.int y :: .int x :: st) := by
  cases hb' : if_icmp.holds cd x y
  · exact Go.pl (fun T t A S => XS.icmpNo A C.1 rfl (hb C.2.1 d) rfl hb' (by subst hq; exact S)) (K2 hb')
  · exact Go.pl (fun T t A S => XS.icmpYes A C.1 rfl rfl (hb C.2.1 d) rfl hb' ho hq' S) (K1 hb')
theorem g_if_eq (C : Cx p s m meth c Z own nm code ml ret) {x : Int32} {o : Int} {q' : Nat} (d : decode code pc = .ok (.ifCond .eq o, 3)) (ho : 0 ≤ (pc : Int) + o) (hq' : ((pc : Int) + o).toNat = q') (hq : pc + 3 = q)
    (K1 : x = 0 → Go p l e R s m args below meth c Ph n0 h k n q' Ls st) (K2 : ¬ x = 0 → Go p l e R s m args below meth c Ph n0 h k n q Ls st) : Go p l e R s m args below meth c Ph n0 h k n pc Ls (.int x :: st) :=
  g_if C d ho hq' hq (fun hh => K1 (by simpa [ifCond.holds, Int32.not_lt, Int32.not_le] using hh)) (fun hh => K2 (by simpa [ifCond.holds, Int32.not_lt, Int32.not_le] using hh))
theorem g_icmp_eq (C : Cx p s m meth c Z own nm code ml ret) {x y : Int32} {o : Int} {q' : Nat} (d : decode code pc = .ok (.if_icmp .eq o, 3)) (ho : 0 ≤ (pc : Int) + o) (hq' : ((pc : Int) + o).toNat = q') (hq : pc + 3 = q)
    (K1 : x = y → Go p l e R s m args below meth c Ph n0 h k n q' Ls st) (K2 : ¬ x = y → Go p l e R s m args below meth c Ph n0 h k n q Ls st) : Go p l e R s m args below meth c Ph n0 h k n pc Ls (.int y :: .int x :: st) :=
  g_icmp C d ho hq' hq (fun hh => K1 (by simpa [if_icmp.holds, Int32.not_lt, Int32.not_le] using hh)) (fun hh => K2 (by simpa [if_icmp.holds, Int32.not_lt, Int32.not_le] using hh))
theorem g_if_ne (C : Cx p s m meth c Z own nm code ml ret) {x : Int32} {o : Int} {q' : Nat} (d : decode code pc = .ok (.ifCond .ne o, 3)) (ho : 0 ≤ (pc : Int) + o) (hq' : ((pc : Int) + o).toNat = q') (hq : pc + 3 = q)
    (K1 : ¬ x = 0 → Go p l e R s m args below meth c Ph n0 h k n q' Ls st) (K2 : x = 0 → Go p l e R s m args below meth c Ph n0 h k n q Ls st) : Go p l e R s m args below meth c Ph n0 h k n pc Ls (.int x :: st) :=
  g_if C d ho hq' hq (fun hh => K1 (by simpa [ifCond.holds, Int32.not_lt, Int32.not_le] using hh)) (fun hh => K2 (by simpa [ifCond.holds, Int32.not_lt, Int32.not_le] using hh))
theorem g_icmp_ne (C : Cx p s m meth c Z own nm code ml ret) {x y : Int32} {o : Int} {q' : Nat} (d : decode code pc = .ok (.if_icmp .ne o, 3)) (ho : 0 ≤ (pc : Int) + o) (hq' : ((pc : Int) + o).toNat = q') (hq : pc + 3 = q)
    (K1 : ¬ x = y → Go p l e R s m args below meth c Ph n0 h k n q' Ls st) (K2 : x = y → Go p l e R s m args below meth c Ph n0 h k n q Ls st) : Go p l e R s m args below meth c Ph n0 h k n pc Ls (.int y :: .int x :: st) :=
  g_icmp C d ho hq' hq (fun hh => K1 (by simpa [if_icmp.holds, Int32.not_lt, Int32.not_le] using hh)) (fun hh => K2 (by simpa [if_icmp.holds, Int32.not_lt, Int32.not_le] using hh))
theorem g_if_lt (C : Cx p s m meth c Z own nm code ml ret) {x : Int32} {o : Int} {q' : Nat} (d : decode code pc = .ok (.ifCond .lt o, 3)) (ho : 0 ≤ (pc : Int) + o) (hq' : ((pc : Int) + o).toNat = q') (hq : pc + 3 = q)
    (K1 : x < 0 → Go p l e R s m args below meth c Ph n0 h k n q' Ls st) (K2 : ¬ x < 0 → Go p l e R s m args below meth c Ph n0 h k n q Ls st) : Go p l e R s m args below meth c Ph n0 h k n pc Ls (.int x :: st) :=
  g_if C d ho hq' hq (fun hh => K1 (by simpa [ifCond.holds, Int32.not_lt, Int32.not_le] using hh)) (fun hh => K2 (by simpa [ifCond.holds, Int32.not_lt, Int32.not_le] using hh))
theorem g_icmp_lt (C : Cx p s m meth c Z own nm code ml ret) {x y : Int32} {o : Int} {q' : Nat} (d : decode code pc = .ok (.if_icmp .lt o, 3)) (ho : 0 ≤ (pc : Int) + o) (hq' : ((pc : Int) + o).toNat = q') (hq : pc + 3 = q)
    (K1 : x < y → Go p l e R s m args below meth c Ph n0 h k n q' Ls st) (K2 : ¬ x < y → Go p l e R s m args below meth c Ph n0 h k n q Ls st) : Go p l e R s m args below meth c Ph n0 h k n pc Ls (.int y :: .int x :: st) :=
  g_icmp C d ho hq' hq (fun hh => K1 (by simpa [if_icmp.holds, Int32.not_lt, Int32.not_le] using hh)) (fun hh => K2 (by simpa [if_icmp.holds, Int32.not_lt, Int32.not_le] using hh))
theorem g_if_ge (C : Cx p s m meth c Z own nm code ml ret) {x : Int32} {o : Int} {q' : Nat} (d : decode code pc = .ok (.ifCond .ge o, 3)) (ho : 0 ≤ (pc : Int) + o) (hq' : ((pc : Int) + o).toNat = q') (hq : pc + 3 = q)
    (K1 : ¬ x < 0 → Go p l e R s m args below meth c Ph n0 h k n q' Ls st) (K2 : x < 0 → Go p l e R s m args below meth c Ph n0 h k n q Ls st) : Go p l e R s m args below meth c Ph n0 h k n pc Ls (.int x :: st) :=
  g_if C d ho hq' hq (fun hh => K1 (by simpa [ifCond.holds, Int32.not_lt, Int32.not_le] using hh)) (fun hh => K2 (by simpa [ifCond.holds, Int32.not_lt, Int32.not_le] using hh))
theorem g_icmp_ge (C : Cx p s m meth c Z own nm code ml ret) {x y : Int32} {o : Int} {q' : Nat} (d : decode code pc = .ok (.if_icmp .ge o, 3)) (ho : 0 ≤ (pc : Int) + o) (hq' : ((pc : Int) + o).toNat = q') (hq : pc + 3 = q)
    (K1 : ¬ x < y → Go p l e R s m args below meth c Ph n0 h k n q' Ls st) (K2 : x < y → Go p l e R s m args below meth c Ph n0 h k n q Ls st) : Go p l e R s m args below meth c Ph n0 h k n pc Ls (.int y :: .int x :: st) :=
  g_icmp C d ho hq' hq (fun hh => K1 (by simpa [if_icmp.holds, Int32.not_lt, Int32.not_le] using hh)) (fun hh => K2 (by simpa [if_icmp.holds, Int32.not_lt, Int32.not_le] using hh))
theorem g_if_gt (C : Cx p s m meth c Z own nm code ml ret) {x : Int32} {o : Int} {q' : Nat} (d : decode code pc = .ok (.ifCond .gt o, 3)) (ho : 0 ≤ (pc : Int) + o) (hq' : ((pc : Int) + o).toNat = q') (hq : pc + 3 = q)
    (K1 : 0 < x → Go p l e R s m args below meth c Ph n0 h k n q' Ls st) (K2 : ¬ 0 < x → Go p l e R s m args below meth c Ph n0 h k n q Ls st) : Go p l e R s m args below meth c Ph n0 h k n pc Ls (.int x :: st) :=
  g_if C d ho hq' hq (fun hh => K1 (by simpa [ifCond.holds, Int32.not_lt, Int32.not_le] using hh)) (fun hh => K2 (by simpa [ifCond.holds, Int32.not_lt, Int32.not_le] using hh))
theorem g_icmp_gt (C : Cx p s m meth c Z own nm code ml ret) {x y : Int32} {o : Int} {q' : Nat} (d : decode code pc = .ok (.if_icmp .gt o, 3)) (ho : 0 ≤ (pc : Int) + o) (hq' : ((pc : Int) + o).toNat = q') (hq : pc + 3 = q)
    (K1 : y < x → Go p l e R s m args below meth c Ph n0 h k n q' Ls st) (K2 : ¬ y < x → Go p l e R s m args below meth c Ph n0 h k n q Ls st) : Go p l e R s m args below meth c Ph n0 h k n pc Ls (.int y :: .int x :: st) :=
  g_icmp C d ho hq' hq (fun hh => K1 (by simpa [if_icmp.holds, Int32.not_lt, Int32.not_le] using hh)) (fun hh => K2 (by simpa [if_icmp.holds, Int32.not_lt, Int32.not_le] using hh))
theorem g_if_le (C : Cx p s m meth c Z own nm code ml ret) {x : Int32} {o : Int} {q' : Nat} (d : decode code pc = .ok (.ifCond .le o, 3)) (ho : 0 ≤ (pc : Int) + o) (hq' : ((pc : Int) + o).toNat = q') (hq : pc + 3 = q)
    (K1 : ¬ 0 < x → Go p l e R s m args below meth c Ph n0 h k n q' Ls st) (K2 : 0 < x → Go p l e R s m args below meth c Ph n0 h k n q Ls st) : Go p l e R s m args below meth c Ph n0 h k n pc Ls (.int x :: st) :=
  g_if C d ho hq' hq (fun hh => K1 (by simpa [ifCond.holds, Int32.not_lt, Int32.not_le] using hh)) (fun hh => K2 (by simpa [ifCond.holds, Int32.not_lt, Int32.not_le] using hh))
theorem g_icmp_le (C : Cx p s m meth c Z own nm code ml ret) {x y : Int32} {o : Int} {q' : Nat} (d : decode code pc = .ok (.if_icmp .le o, 3)) (ho : 0 ≤ (pc : Int) + o) (hq' : ((pc : Int) + o).toNat = q') (hq : pc + 3 = q)
    (K1 : ¬ y < x → Go p l e R s m args below meth c Ph n0 h k n q' Ls st) (K2 : y < x → Go p l e R s m args below meth c Ph n0 h k n q Ls st) : Go p l e R s m args below meth c Ph n0 h k n pc Ls (.int y :: .int x :: st) :=
  g_icmp C d ho hq' hq (fun hh => K1 (by simpa [if_icmp.holds, Int32.not_lt, Int32.not_le] using hh)) (fun hh => K2 (by simpa [if_icmp.holds, Int32.not_lt, Int32.not_le] using hh))
theorem g_ifnullY (C : Cx p s m meth c Z own nm code ml ret) {a : Addr} {o : Int} (d : decode code pc = .ok (.ifnull o, 3)) (ho : 0 ≤ (pc : Int) + o) (hq : ((pc : Int) + o).toNat = q) (K : Go p l e R s m args below meth c Ph n0 h k n q Ls st) : Go p l e R s m args below meth c Ph n0 h k n pc Ls (.null :: st) :=
  Go.pl (fun T t A S => XS.ifnullYes A C.1 rfl rfl (hb C.2.1 d) rfl ho hq S) K
theorem g_ifnullN (C : Cx p s m meth c Z own nm code ml ret) {a : Addr} {o : Int} (d : decode code pc = .ok (.ifnull o, 3)) (hq : pc + 3 = q) (K : Go p l e R s m args below meth c Ph n0 h k n q Ls st) : Go p l e R s m args below meth c Ph n0 h k n pc Ls (.ref a :: st) :=
  Go.pl (fun T t A S => XS.ifnullNo A C.1 rfl (hb C.2.1 d) rfl (by subst hq; exact S)) K
theorem g_ifnonnullY (C : Cx p s m meth c Z own nm code ml ret) {a : Addr} {o : Int} (d : decode code pc = .ok (.ifnonnull o, 3)) (ho : 0 ≤ (pc : Int) + o) (hq : ((pc : Int) + o).toNat = q) (K : Go p l e R s m args below meth c Ph n0 h k n q Ls st) : Go p l e R s m args below meth c Ph n0 h k n pc Ls (.ref a :: st) :=
  Go.pl (fun T t A S => XT.ifnonnullYes A C.1 rfl rfl (hb C.2.1 d) rfl ho hq S) K
theorem g_ifnonnullN (C : Cx p s m meth c Z own nm code ml ret) {a : Addr} {o : Int} (d : decode code pc = .ok (.ifnonnull o, 3)) (hq : pc + 3 = q) (K : Go p l e R s m args below meth c Ph n0 h k n q Ls st) : Go p l e R s m args below meth c Ph n0 h k n pc Ls (.null :: st) :=
  Go.pl (fun T t A S => XT.ifnonnullNo A C.1 rfl (hb C.2.1 d) rfl (by subst hq; exact S)) K
theorem g_acmp_eq (C : Cx p s m meth c Z own nm code ml ret) {x y : Value} {o : Int} {q' : Nat} (d : decode code pc = .ok (.if_acmp .eq o, 3)) (hx' : x.isRef = true) (hy' : y.isRef = true) (ho : 0 ≤ (pc : Int) + o) (hq' : ((pc : Int) + o).toNat = q') (hq : pc + 3 = q)
    (K1 : x = y → Go p l e R s m args below meth c Ph n0 h k n q' Ls st) (K2 : ¬ x = y → Go p l e R s m args below meth c Ph n0 h k n q Ls st) : Go p l e R s m args below meth c Ph n0 h k n pc Ls (y :: x :: st) := by
  by_cases hh : x = y
  · exact Go.pl (fun T t A S => XT.acmpYes A C.1 rfl rfl (hb C.2.1 d) rfl hx' hy' (by simpa [XT.acmp] using hh) ho hq' S) (K1 hh)
  · exact Go.pl (fun T t A S => XT.acmpNo A C.1 rfl (hb C.2.1 d) rfl hx' hy' (by simpa [XT.acmp] using hh) (by subst hq; exact S)) (K2 (by simpa using hh))
theorem g_acmp_ne (C : Cx p s m meth c Z own nm code ml ret) {x y : Value} {o : Int} {q' : Nat} (d : decode code pc = .ok (.if_acmp .ne o, 3)) (hx' : x.isRef = true) (hy' : y.isRef = true) (ho : 0 ≤ (pc : Int) + o) (hq' : ((pc : Int) + o).toNat = q') (hq : pc + 3 = q)
    (K1 : ¬ x = y → Go p l e R s m args below meth c Ph n0 h k n q' Ls st) (K2 : x = y → Go p l e R s m args below meth c Ph n0 h k n q Ls st) : Go p l e R s m args below meth c Ph n0 h k n pc Ls (y :: x :: st) := by
  by_cases hh : ¬ x = y
  · exact Go.pl (fun T t A S => XT.acmpYes A C.1 rfl rfl (hb C.2.1 d) rfl hx' hy' (by simpa [XT.acmp] using hh) ho hq' S) (K1 hh)
  · exact Go.pl (fun T t A S => XT.acmpNo A C.1 rfl (hb C.2.1 d) rfl hx' hy' (by simpa [XT.acmp] using hh) (by subst hq; exact S)) (K2 (by simpa using hh))
theorem g_getf (C : Cx p s m meth c Z own nm code ml ret) {R0 O f d' host : String} {index : Nat} {a : Addr} {v : Value} (d : decode code pc = .ok (.getfield index, 3)) (w : (Cond.fieldLink own index R0 f d').before a0 Z = true ∨ (Cond.fieldLinkNest own index R0 f d' host).before a0 Z = true) (via : Via Z R0 O f d') (F : Fld Z h a O f d' v) (hq : pc + 3 = q)
    (K : Go p l e R s m args below meth c Ph n0 h k n q Ls (v :: st)) : Go p l e R s m args below meth c Ph n0 h k n pc Ls (.ref a :: st) := fun T locs X N eT => by
  obtain ⟨T', X', e', stp⟩ := getF X C.1 C.2.2.2.2.1 C.2.2.2.1 w via eT F (g := mkF m pc Ls (.ref a :: st)) rfl rfl (hb C.2.1 d)
  obtain ⟨s₂, v, S, r⟩ := K T' locs X' N e'
  exact ⟨s₂, v, stp _ (by subst hq; exact S), r⟩
theorem g_gets (C : Cx p s m meth c Z own nm code ml ret) {R0 O f d' host : String} {index : Nat} {v : Value} (d : decode code pc = .ok (.getstatic index, 3)) (w : (Cond.fieldLink own index R0 f d').before a0 Z = true ∨ (Cond.fieldLinkNest own index R0 f d' host).before a0 Z = true) (via : Via Z R0 O f d') (F : Sta Z h O f d' v) (hq : pc + 3 = q)
    (K : Go p l e R s m args below meth c Ph n0 h k n q Ls (v :: st)) : Go p l e R s m args below meth c Ph n0 h k n pc Ls st := fun T locs X N eT => by
  obtain ⟨T', X', e', stp⟩ := getS2 X C.1 C.2.2.2.2.1 C.2.2.2.1 w via eT F (g := mkF m pc Ls st) rfl (hb C.2.1 d)
  obtain ⟨s₂, v, S, r⟩ := K T' locs X' N e'
  exact ⟨s₂, v, stp _ (by subst hq; exact S), r⟩
theorem g_putf (C : Cx p s m meth c Z own nm code ml ret) {R0 O f d' host Cl : String} {index kk : Nat} {a : Addr} {v old : Value} {ty : FieldType} (d : decode code pc = .ok (.putfield index, 3)) (w : (Cond.fieldLink own index R0 f d').before a0 Z = true ∨ (Cond.fieldLinkNest own index R0 f d' host).before a0 Z = true) (via : Via Z R0 O f d') (F : Fld Z h a O f d' old) (E : Exa Z h a Cl)
    (L : (Cond.lays Cl O f d').before a0 Z = true ∨ ((Cond.laysFinal Cl O f d').before a0 Z = true ∧ own = O ∧ nm = "<init>")) (wi : (Cond.instantiable Cl kk).before a0 Z = true) (hty : parseFieldDescriptor d' = some ty) (hn : narrow ty v = v) (hf : fits ty v = true) (ha : n0 ≤ a) (hq : pc + 3 = q)
    (K : ∀ h', Wr h h' a (Jvm.RoadKit.slotOf Z O f d') v → Go p l e R s m args below meth c Ph n0 h' k n q Ls st) : Go p l e R s m args below meth c Ph n0 h k n pc Ls (v :: .ref a :: st) := fun T locs X N eT => by
  obtain ⟨T', h', X', e', W, stp⟩ := putF X C.1 C.2.2.2.2.1 C.2.2.2.1 w via eT F E (L.imp id fun q => ⟨q.1, q.2.1, C.2.2.2.2.2.1.trans q.2.2⟩) wi hty hn hf (g := mkF m pc Ls (v :: .ref a :: st)) rfl rfl (hb C.2.1 d)
  obtain ⟨s₂, v, S, r⟩ := K h' W T' _ X' (Fr.snoc X' N ha) e'
  exact ⟨s₂, v, stp _ (by subst hq; exact S), r⟩
theorem g_new (C : Cx p s m meth c Z own nm code ml ret) {Cl : String} {index nn : Nat} (d : decode code pc = .ok (.new index, 3)) (w : (Cond.classLink own index Cl).before a0 Z = true) (wi : (Cond.instantiable Cl nn).before a0 Z = true) (wz : (Cond.initialized Cl).before a0 Z = true) (hc : k + 1 ≤ R.cells) (hl : n + nn ≤ R.slots) (hq : pc + 3 = q)
    (K : ∀ (a : Addr) (h' : Heap), a = h.size → Ext h h' → Exa Z h' a Cl → (∀ {O f d' : String} {ty : FieldType}, Laid Z a0 Cl O f d' → parseFieldDescriptor d' = some ty → Fld Z h' a O f d' (defaultValue ty)) → Go p l e R s m args below meth c Ph n0 h' (k + 1) (n + nn) q Ls (.ref a :: st)) : Go p l e R s m args below meth c Ph n0 h k n pc Ls st := fun T locs X N eT => by
  obtain ⟨T', h', X', e', E, A, D, -, stp⟩ := newO X C.1 C.2.2.2.2.1 C.2.2.2.1 w wi wz eT (g := mkF m pc Ls st) rfl (hb C.2.1 d) hc hl
  obtain ⟨s₂, v, S, r⟩ := K _ h' rfl E A D T' locs X' N e'
  exact ⟨s₂, v, stp _ (by subst hq; exact S), r⟩
theorem g_newarray (C : Cx p s m meth c Z own nm code ml ret) {aty : ArrayType} {N' : Int32} {cap : Nat} (d : decode code pc = .ok (.newarray aty, 2)) (w : (Cond.arrayClass (newarray.typeOf aty)).before a0 Z = true) (hn : ¬ N' < 0) (hcap : N'.toNatClampNeg ≤ cap) (hbg : cap * 8 ≤ 536870912) (hc : k + 1 ≤ R.cells) (hl : n + cap ≤ R.slots) (hq : pc + 2 = q)
    (K : ∀ (a : Addr) (h' : Heap) (cA : ClassId), a = h.size → Ext h h' → Arr Z h' a (newA cA (newarray.typeOf aty) N') (newarray.typeOf aty) → Go p l e R s m args below meth c Ph n0 h' (k + 1) (n + cap) q Ls (.ref a :: st)) : Go p l e R s m args below meth c Ph n0 h k n pc Ls (.int N' :: st) := fun T locs X N eT => by
  obtain ⟨T', h', cA, X', e', E, A, stp⟩ := newP X C.1 C.2.2.2.2.1 w eT (g := mkF m pc Ls (.int N' :: st)) rfl (hb C.2.1 d) rfl hn hcap hbg hc hl
  obtain ⟨s₂, v, S, r⟩ := K _ h' cA rfl E A T' locs X' N e'
  exact ⟨s₂, v, stp _ (by subst hq; exact S), r⟩
theorem g_anewarray (C : Cx p s m meth c Z own nm code ml ret) {Cl : String} {index : Nat} {N' : Int32} {cap : Nat} (d : decode code pc = .ok (.anewarray index, 3)) (w1 : (Cond.classLink own index Cl).before a0 Z = true) (w2 : (Cond.arrayOver (.object Cl)).before a0 Z = true) (hn : ¬ N' < 0) (hcap : N'.toNatClampNeg ≤ cap) (hbg : cap * 8 ≤ 536870912) (hc : k + 1 ≤ R.cells) (hl : n + cap ≤ R.slots) (hq : pc + 3 = q)
    (K : ∀ (a : Addr) (h' : Heap) (cA : ClassId), a = h.size → Ext h h' → Arr Z h' a (newA cA (.object Cl) N') (.object Cl) → Ovr Z cA Cl → Go p l e R s m args below meth c Ph n0 h' (k + 1) (n + cap) q Ls (.ref a :: st)) : Go p l e R s m args below meth c Ph n0 h k n pc Ls (.int N' :: st) := fun T locs X N eT => by
  obtain ⟨T', h', cA, X', e', E, A, O, stp⟩ := newR X C.1 C.2.2.2.2.1 C.2.2.2.1 w1 w2 eT (g := mkF m pc Ls (.int N' :: st)) rfl (hb C.2.1 d) rfl hn hcap hbg hc hl
  obtain ⟨s₂, v, S, r⟩ := K _ h' cA rfl E A O T' locs X' N e'
  exact ⟨s₂, v, stp _ (by subst hq; exact S), r⟩
theorem g_initO (C : Cx p s m meth c Z own nm code ml ret) {idx : Nat} {a : Addr} {W : Nat} (d : decode code pc = .ok (.invokespecial idx, 3)) (w1 : (Cond.methodLink own idx Lib.objectInit).before a0 Z = true) (w2 : (Cond.instanceMethod Lib.objectInit).before a0 Z = true) (w3 : (Cond.code Lib.objectInit ⟨#[0xb1]⟩ 1 none).before a0 Z = true)
    (hsz : Ls.size = ml) (hf : 1 ≤ R.frames) (hW : (st.map fun v => v.category).sum = W) (hl : W + 12 ≤ R.locals) (hq : pc + 3 = q) (K : Go p l e R s m args below meth c Ph n0 h k n q Ls st) : Go p l e R s m args below meth c Ph n0 h k n pc Ls (.ref a :: st) := fun T locs X N eT => by
  obtain ⟨T', X', e', stp⟩ := initO X C.1 C.2.2.2.2.1 C.2.2.2.1 w1 w2 w3 eT (g := mkF m pc Ls (.ref a :: st)) rfl (hsz.trans C.2.2.1.symm) rfl (hb C.2.1 d) hf (W := W) (by show 2 * 0 + _ ≤ _; rw [hW]; omega) hl
  obtain ⟨s₂, v, S, r⟩ := K T' locs X' N e'
  exact ⟨s₂, v, stp _ (by subst hq; exact S), r⟩
theorem g_castY (C : Cx p s m meth c Z own nm code ml ret) {K' : String} {index : Nat} {a : Addr} (d : decode code pc = .ok (.checkcast index, 3)) (w : (Cond.classLink own index K').before a0 Z = true) (F : Ins Z h a K' true) (hq : pc + 3 = q) (K : Go p l e R s m args below meth c Ph n0 h k n q Ls (.ref a :: st)) : Go p l e R s m args below meth c Ph n0 h k n pc Ls (.ref a :: st) := fun T locs X N eT => by
  obtain ⟨T', X', e', stp⟩ := castY X C.1 C.2.2.2.2.1 C.2.2.2.1 w eT F (g := mkF m pc Ls (.ref a :: st)) rfl rfl (hb C.2.1 d)
  obtain ⟨s₂, v, S, r⟩ := K T' locs X' N e'
  exact ⟨s₂, v, stp _ (by subst hq; exact S), r⟩
theorem g_instY (C : Cx p s m meth c Z own nm code ml ret) {K' : String} {index : Nat} {a : Addr} (d : decode code pc = .ok (.instanceof index, 3)) (w : (Cond.classLink own index K').before a0 Z = true) (F : Ins Z h a K' true) (hq : pc + 3 = q) (K : Go p l e R s m args below meth c Ph n0 h k n q Ls (.int 1 :: st)) : Go p l e R s m args below meth c Ph n0 h k n pc Ls (.ref a :: st) := fun T locs X N eT => by
  obtain ⟨T', X', e', stp⟩ := instY X C.1 C.2.2.2.2.1 C.2.2.2.1 w eT F (g := mkF m pc Ls (.ref a :: st)) rfl rfl (hb C.2.1 d)
  obtain ⟨s₂, v, S, r⟩ := K T' locs X' N e'
  exact ⟨s₂, v, stp _ (by subst hq; exact S), r⟩
theorem g_ldcInt (C : Cx p s m meth c Z own nm code ml ret) {index : Nat} {v : Int32} (d : decode code pc = .ok (.ldc index, 2)) (w : (Cond.constant own index v).before a0 Z = true) (hq : pc + 2 = q) (K : Go p l e R s m args below meth c Ph n0 h k n q Ls (.int v :: st)) : Go p l e R s m args below meth c Ph n0 h k n pc Ls st := fun T locs X N eT => by
  obtain ⟨s₂, v', S, r⟩ := K T locs X N eT
  exact ⟨s₂, v', X.ldcInt C.1 C.2.2.2.1 (mvT C.2.2.2.2.1 w) (g := mkF m pc Ls st) rfl (hb C.2.1 d) _ (by subst hq; exact S), r⟩
theorem g_ldc2Long (C : Cx p s m meth c Z own nm code ml ret) {index : Nat} {v : Int64} (d : decode code pc = .ok (.ldc2_w index, 3)) (w : (Cond.constantLong own index v).before a0 Z = true) (hq : pc + 3 = q) (K : Go p l e R s m args below meth c Ph n0 h k n q Ls (.long v :: st)) : Go p l e R s m args below meth c Ph n0 h k n pc Ls st := fun T locs X N eT => by
  obtain ⟨s₂, v', S, r⟩ := K T locs X N eT
  exact ⟨s₂, v', X.ldc2Long C.1 C.2.2.2.1 (mvT C.2.2.2.2.1 w) (g := mkF m pc Ls st) rfl (hb C.2.1 d) _ (by subst hq; exact S), r⟩
/-- an array of N places; place j holds f j -/
def Av (Z : State) (h : Heap) (a : Addr) (ty : FieldType) (N : Nat) (f : Nat → Value) : Prop := ∃ c : Cell, Arr Z h a c ty ∧ c.slots.size = N ∧ N < 2 ^ 31 ∧ ∀ j, j < N → c.slots[j]? = some (f j)
theorem Av.ext {h' : Heap} {a : Addr} {ty : FieldType} {N : Nat} {f : Nat → Value} (A : Av Z h a ty N f) (E : Ext h h') : Av Z h' a ty N f := by obtain ⟨c, A, r⟩ := A; exact ⟨c, A.ext E, r⟩
theorem Av.lt {a : Addr} {ty : FieldType} {N : Nat} {f : Nat → Value} (A : Av Z h a ty N f) : a < h.size := by obtain ⟨c, A, r⟩ := A; exact A.lt
theorem Av.other {h' : Heap} {a b : Addr} {ty : FieldType} {N sl : Nat} {v : Value} {f : Nat → Value} (A : Av Z h b ty N f) (W : Wr h h' a sl v) (ne : b ≠ a) : Av Z h' b ty N f := by obtain ⟨c, A, r⟩ := A; exact ⟨c, A.other W ne, r⟩
theorem Av.keep {h' : Heap} {a : Addr} {ty : FieldType} {N : Nat} {f : Nat → Value} {ws : List Addr} (A : Av Z h a ty N f) (K : Keep h h' ws) (ne : a ∉ ws) : Av Z h' a ty N f := by obtain ⟨c, A, r⟩ := A; exact ⟨c, ⟨K.2.1 a c A.1 ne, A.2⟩, r⟩
theorem Av.congr {a : Addr} {ty : FieldType} {N : Nat} {f g : Nat → Value} (A : Av Z h a ty N f) (hfg : ∀ j, j < N → f j = g j) : Av Z h a ty N g := by obtain ⟨c, A, r1, r2, r3⟩ := A; exact ⟨c, A, r1, r2, fun j hj => by rw [r3 j hj, hfg j hj]⟩
theorem Av.set {h' : Heap} {a : Addr} {ty : FieldType} {N i : Nat} {v : Value} {f : Nat → Value} (A : Av Z h a ty N f) (W : Wr h h' a i v) (hi : i < N) : Av Z h' a ty N (fun j => if j = i then v else f j) := by
  obtain ⟨c, A, r1, r2, r3⟩ := A
  refine ⟨c.setSlot i v, A.same W, by rw [sz_set]; exact r1, r2, fun j hj => ?_⟩
  by_cases e : j = i
  · subst e; simp [Cell.setSlot, r1, hi]
  · show (c.setSlot i v).slots[j]? = some (if j = i then v else f j)
    rw [if_neg e, ← r3 j hj]; simp [Cell.setSlot, Array.getElem?_setIfInBounds_ne (Ne.symm e)]
theorem Av.new {a : Addr} {ty : FieldType} {cA : ClassId} {N' : Int32} (A : Arr Z h a (newA cA ty N') ty) (hn : ¬ N' < 0) : Av Z h a ty N'.toNatClampNeg (fun _ => defaultValue ty) :=
  ⟨_, A, sz_new _ _ _, (back32 hn).2, fun j hj => by simp [newA, hj]⟩
theorem Av.ne_exa {a b : Addr} {ty : FieldType} {N kk : Nat} {f : Nat → Value} {Cl : String} (A : Av Z h a ty N f) (E : Exa Z h b Cl) (wi : (Cond.instantiable Cl kk).before a0 Z = true) : a ≠ b := by obtain ⟨c, A, r⟩ := A; exact Ne.symm (ne_arr E wi A)
theorem i32_idx {i N : Nat} (hi : i < N) (hN : N < 2 ^ 31) {c : Cell} (hc : c.slots.size = N) : (¬ (Int32.ofNat i < 0 ∨ c.slots.size ≤ (Int32.ofNat i).toNatClampNeg)) ∧ (Int32.ofNat i).toNatClampNeg = i := by
  have e : (Int32.ofNat i).toNatClampNeg = i := Int32.toNatClampNeg_ofNat_of_lt (by omega)
  refine ⟨?_, e⟩
  rw [e, hc]
  rintro (q | q)
  · have := Int32.lt_iff_toInt_lt.mp q
    rw [Int32.toInt_ofNat_of_lt (by omega)] at this
    simp at this
    omega
  · omega
theorem g_iaload (C : Cx p s m meth c Z own nm code ml ret) {a : Addr} {N i : Nat} {f : Nat → Value} {j : Int32} {v : Value} (d : decode code pc = .ok (.iaload, 1)) (A : Av Z h a .int N f) (hi : i < N) (hj : j = Int32.ofNat i) (hv : f i = v) (hq : pc + 1 = q) (K : Go p l e R s m args below meth c Ph n0 h k n q Ls (v :: st)) : Go p l e R s m args below meth c Ph n0 h k n pc Ls (.int j :: .ref a :: st) := fun T locs X N' eT => by
  obtain ⟨c', A, r1, r2, r3⟩ := A
  obtain ⟨g1, g2⟩ := i32_idx hi r2 r1
  obtain ⟨s₂, v', S, r⟩ := K T locs X N' eT
  subst hj hv
  exact ⟨s₂, v', X.iaload C.1 (by rw [eT]; exact A.1) (State.isArrayOf_alike C.2.2.2.2.1.alike A.2.1) A.2.2 g1 (by rw [g2]; exact r3 i hi) (g := mkF m pc Ls _) rfl rfl (hb C.2.1 d) _ (by subst hq; exact S), r⟩
theorem g_laload (C : Cx p s m meth c Z own nm code ml ret) {a : Addr} {N i : Nat} {f : Nat → Value} {j : Int32} {v : Value} (d : decode code pc = .ok (.laload, 1)) (A : Av Z h a .long N f) (hi : i < N) (hj : j = Int32.ofNat i) (hv : f i = v) (hq : pc + 1 = q) (K : Go p l e R s m args below meth c Ph n0 h k n q Ls (v :: st)) : Go p l e R s m args below meth c Ph n0 h k n pc Ls (.int j :: .ref a :: st) := fun T locs X N' eT => by
  obtain ⟨c', A, r1, r2, r3⟩ := A
  obtain ⟨g1, g2⟩ := i32_idx hi r2 r1
  obtain ⟨s₂, v', S, r⟩ := K T locs X N' eT
  subst hj hv
  exact ⟨s₂, v', X.laload C.1 (by rw [eT]; exact A.1) (State.isArrayOf_alike C.2.2.2.2.1.alike A.2.1) A.2.2 g1 (by rw [g2]; exact r3 i hi) (g := mkF m pc Ls _) rfl rfl (hb C.2.1 d) _ (by subst hq; exact S), r⟩
theorem g_caload (C : Cx p s m meth c Z own nm code ml ret) {a : Addr} {N i : Nat} {f : Nat → Value} {j : Int32} {v : Value} (d : decode code pc = .ok (.caload, 1)) (A : Av Z h a .char N f) (hi : i < N) (hj : j = Int32.ofNat i) (hv : f i = v) (hq : pc + 1 = q) (K : Go p l e R s m args below meth c Ph n0 h k n q Ls (v :: st)) : Go p l e R s m args below meth c Ph n0 h k n pc Ls (.int j :: .ref a :: st) := fun T locs X N' eT => by
  obtain ⟨c', A, r1, r2, r3⟩ := A
  obtain ⟨g1, g2⟩ := i32_idx hi r2 r1
  obtain ⟨s₂, v', S, r⟩ := K T locs X N' eT
  subst hj hv
  exact ⟨s₂, v', X.caload C.1 (by rw [eT]; exact A.1) (State.isArrayOf_alike C.2.2.2.2.1.alike A.2.1) A.2.2 g1 (by rw [g2]; exact r3 i hi) (g := mkF m pc Ls _) rfl rfl (hb C.2.1 d) _ (by subst hq; exact S), r⟩
theorem g_baload (C : Cx p s m meth c Z own nm code ml ret) {a : Addr} {N i : Nat} {f : Nat → Value} {j : Int32} {v : Value} (d : decode code pc = .ok (.baload, 1)) (A : Av Z h a .byte N f) (hi : i < N) (hj : j = Int32.ofNat i) (hv : f i = v) (hq : pc + 1 = q) (K : Go p l e R s m args below meth c Ph n0 h k n q Ls (v :: st)) : Go p l e R s m args below meth c Ph n0 h k n pc Ls (.int j :: .ref a :: st) := fun T locs X N' eT => by
  obtain ⟨c', A, r1, r2, r3⟩ := A
  obtain ⟨g1, g2⟩ := i32_idx hi r2 r1
  obtain ⟨s₂, v', S, r⟩ := K T locs X N' eT
  subst hj hv
  exact ⟨s₂, v', X.baloadBytes C.1 (by rw [eT]; exact A.1) (State.isArrayOf_alike C.2.2.2.2.1.alike A.2.1) A.2.2 g1 (by rw [g2]; exact r3 i hi) (g := mkF m pc Ls _) rfl rfl (hb C.2.1 d) _ (by subst hq; exact S), r⟩
theorem g_aaload (C : Cx p s m meth c Z own nm code ml ret) {a : Addr} {N i : Nat} {f : Nat → Value} {j : Int32} {v : Value} {ty : FieldType} (d : decode code pc = .ok (.aaload, 1)) (A : Av Z h a ty N f) (hty : ty.isReference = true) (hi : i < N) (hj : j = Int32.ofNat i) (hv : f i = v) (hq : pc + 1 = q) (K : Go p l e R s m args below meth c Ph n0 h k n q Ls (v :: st)) : Go p l e R s m args below meth c Ph n0 h k n pc Ls (.int j :: .ref a :: st) := fun T locs X N' eT => by
  obtain ⟨c', A, r1, r2, r3⟩ := A
  obtain ⟨g1, g2⟩ := i32_idx hi r2 r1
  obtain ⟨s₂, v', S, r⟩ := K T locs X N' eT
  subst hj hv
  exact ⟨s₂, v', X.aaload C.1 (by rw [eT]; exact A.1) (State.isArrayOf_alike C.2.2.2.2.1.alike A.2.1) hty A.2.2 g1 (by rw [g2]; exact r3 i hi) (g := mkF m pc Ls _) rfl rfl (hb C.2.1 d) _ (by subst hq; exact S), r⟩
theorem g_alen (C : Cx p s m meth c Z own nm code ml ret) {a : Addr} {N : Nat} {f : Nat → Value} {ty : FieldType} {z : Int32} (d : decode code pc = .ok (.arraylength, 1)) (A : Av Z h a ty N f) (hz : Int32.ofNat N = z) (hq : pc + 1 = q) (K : Go p l e R s m args below meth c Ph n0 h k n q Ls (.int z :: st)) : Go p l e R s m args below meth c Ph n0 h k n pc Ls (.ref a :: st) := fun T locs X N' eT => by
  obtain ⟨c', A, r1, r2, r3⟩ := A
  obtain ⟨s₂, v', S, r⟩ := K T locs X N' eT
  refine ⟨s₂, v', X.arraylength C.1 (by rw [eT]; exact A.1) (State.isArrayOf_alike C.2.2.2.2.1.alike A.2.1) (g := mkF m pc Ls _) rfl rfl (hb C.2.1 d) _ ?_, r⟩
  subst hq hz
  rw [r1]
  exact S
theorem g_iastore (C : Cx p s m meth c Z own nm code ml ret) {a : Addr} {N i : Nat} {f : Nat → Value} {j : Int32} {x : Int32} (d : decode code pc = .ok (.iastore, 1)) (A : Av Z h a .int N f) (hi : i < N) (hj : j = Int32.ofNat i) (ha : n0 ≤ a) (hq : pc + 1 = q)
    (K : ∀ h', Wr h h' a i (.int x) → Av Z h' a .int N (fun j => if j = i then (.int x) else f j) → Go p l e R s m args below meth c Ph n0 h' k n q Ls st) : Go p l e R s m args below meth c Ph n0 h k n pc Ls (.int x :: .int j :: .ref a :: st) := fun T locs X N' eT => by
  have A' := A
  obtain ⟨c', A, r1, r2, r3⟩ := A
  obtain ⟨g1, g2⟩ := i32_idx hi r2 r1
  subst hj
  obtain ⟨T', h', X', e', W, stp⟩ := stI X C.1 C.2.2.2.2.1 eT A g1 (g := mkF m pc Ls (.int x :: .int (Int32.ofNat i) :: .ref a :: st)) rfl rfl (hb C.2.1 d)
  have N2 := Fr.snoc X' N' ha
  rw [g2] at W
  obtain ⟨s₂, v, S, r⟩ := K h' W (A'.set W hi) T' _ X' N2 e'
  exact ⟨s₂, v, stp _ (by subst hq; exact S), r⟩
theorem g_lastore (C : Cx p s m meth c Z own nm code ml ret) {a : Addr} {N i : Nat} {f : Nat → Value} {j : Int32} {x : Int64} (d : decode code pc = .ok (.lastore, 1)) (A : Av Z h a .long N f) (hi : i < N) (hj : j = Int32.ofNat i) (ha : n0 ≤ a) (hq : pc + 1 = q)
    (K : ∀ h', Wr h h' a i (.long x) → Av Z h' a .long N (fun j => if j = i then (.long x) else f j) → Go p l e R s m args below meth c Ph n0 h' k n q Ls st) : Go p l e R s m args below meth c Ph n0 h k n pc Ls (.long x :: .int j :: .ref a :: st) := fun T locs X N' eT => by
  have A' := A
  obtain ⟨c', A, r1, r2, r3⟩ := A
  obtain ⟨g1, g2⟩ := i32_idx hi r2 r1
  subst hj
  obtain ⟨T', h', X', e', W, stp⟩ := stJ X C.1 C.2.2.2.2.1 eT A g1 (g := mkF m pc Ls (.long x :: .int (Int32.ofNat i) :: .ref a :: st)) rfl rfl (hb C.2.1 d)
  have N2 := Fr.snoc X' N' ha
  rw [g2] at W
  obtain ⟨s₂, v, S, r⟩ := K h' W (A'.set W hi) T' _ X' N2 e'
  exact ⟨s₂, v, stp _ (by subst hq; exact S), r⟩
theorem g_castore (C : Cx p s m meth c Z own nm code ml ret) {a : Addr} {N i : Nat} {f : Nat → Value} {j : Int32} {x : Int32} (d : decode code pc = .ok (.castore, 1)) (A : Av Z h a .char N f) (hi : i < N) (hj : j = Int32.ofNat i) (ha : n0 ≤ a) (hq : pc + 1 = q)
    (K : ∀ h', Wr h h' a i (.int (nar .char x)) → Av Z h' a .char N (fun j => if j = i then (.int (nar .char x)) else f j) → Go p l e R s m args below meth c Ph n0 h' k n q Ls st) : Go p l e R s m args below meth c Ph n0 h k n pc Ls (.int x :: .int j :: .ref a :: st) := fun T locs X N' eT => by
  have A' := A
  obtain ⟨c', A, r1, r2, r3⟩ := A
  obtain ⟨g1, g2⟩ := i32_idx hi r2 r1
  subst hj
  obtain ⟨T', h', X', e', W, stp⟩ := stC X C.1 C.2.2.2.2.1 eT A g1 (g := mkF m pc Ls (.int x :: .int (Int32.ofNat i) :: .ref a :: st)) rfl rfl (hb C.2.1 d)
  have N2 := Fr.snoc X' N' ha
  rw [g2] at W
  obtain ⟨s₂, v, S, r⟩ := K h' W (A'.set W hi) T' _ X' N2 e'
  exact ⟨s₂, v, stp _ (by subst hq; exact S), r⟩
theorem g_bastore (C : Cx p s m meth c Z own nm code ml ret) {a : Addr} {N i : Nat} {f : Nat → Value} {j : Int32} {x : Int32} (d : decode code pc = .ok (.bastore, 1)) (A : Av Z h a .byte N f) (hi : i < N) (hj : j = Int32.ofNat i) (ha : n0 ≤ a) (hq : pc + 1 = q)
    (K : ∀ h', Wr h h' a i (.int (nar .byte x)) → Av Z h' a .byte N (fun j => if j = i then (.int (nar .byte x)) else f j) → Go p l e R s m args below meth c Ph n0 h' k n q Ls st) : Go p l e R s m args below meth c Ph n0 h k n pc Ls (.int x :: .int j :: .ref a :: st) := fun T locs X N' eT => by
  have A' := A
  obtain ⟨c', A, r1, r2, r3⟩ := A
  obtain ⟨g1, g2⟩ := i32_idx hi r2 r1
  subst hj
  obtain ⟨T', h', X', e', W, stp⟩ := stB X C.1 C.2.2.2.2.1 eT A g1 (g := mkF m pc Ls (.int x :: .int (Int32.ofNat i) :: .ref a :: st)) rfl rfl (hb C.2.1 d)
  have N2 := Fr.snoc X' N' ha
  rw [g2] at W
  obtain ⟨s₂, v, S, r⟩ := K h' W (A'.set W hi) T' _ X' N2 e'
  exact ⟨s₂, v, stp _ (by subst hq; exact S), r⟩
theorem g_aastore (C : Cx p s m meth c Z own nm code ml ret) {a : Addr} {N i : Nat} {f : Nat → Value} {j : Int32} {x : Value} {ty : FieldType} (d : decode code pc = .ok (.aastore, 1)) (A : Av Z h a ty N f) (hi : i < N) (hj : j = Int32.ofNat i) (hty : ty.isReference = true) (F : Sto Z h a x) (ha : n0 ≤ a) (hq : pc + 1 = q)
    (K : ∀ h', Wr h h' a i x → Av Z h' a ty N (fun j => if j = i then x else f j) → Go p l e R s m args below meth c Ph n0 h' k n q Ls st) : Go p l e R s m args below meth c Ph n0 h k n pc Ls (x :: .int j :: .ref a :: st) := fun T locs X N' eT => by
  have A' := A
  obtain ⟨c', A, r1, r2, r3⟩ := A
  obtain ⟨g1, g2⟩ := i32_idx hi r2 r1
  subst hj
  obtain ⟨T', h', X', e', W, stp⟩ := stR X C.1 C.2.2.2.2.1 eT A g1 hty F (g := mkF m pc Ls (x :: .int (Int32.ofNat i) :: .ref a :: st)) rfl rfl (hb C.2.1 d)
  have N2 := Fr.snoc X' N' ha
  rw [g2] at W
  obtain ⟨s₂, v, S, r⟩ := K h' W (A'.set W hi) T' _ X' N2 e'
  exact ⟨s₂, v, stp _ (by subst hq; exact S), r⟩
/-- a contract: with the arguments as', from the heap hs, the call returns v with Q v (the heap then); the written places lie at or above nf; rm: its room -/
def Ctr (l : Launch) (Z : State) (y : MethodName) (bytes : ByteArray) (maxL : Nat) (rt : Option FieldType) (rm : Room) (as' : Array Value) (hs : Heap) (nf : Nat) (Q : Option Value → Heap → Prop) : Prop :=
  MetFree l y (head1 [Cond.code y bytes maxL rt] rm) (fun a U => a = as' ∧ Z.Warmed39 U.vm ∧ U.heap = hs) (fun _ _ _ _ _ => True) (fun _ U o U' => ∃ v L, o = .returned v ∧ (Q v U'.heap ∧ Fr nf L) ∧ FrameEnd U o U' L rm.cells rm.slots)
/-- what a narrow walk must come to -/
def FinN (s : State) (below : List Frame) (rm : Room) (nf : Nat) (Q : Option Value → Heap → Prop) : State → Option Value → Prop :=
  fun s₂ v => s₂.status = .running ∧ Ended s₂ below (.returned v) ∧ ∃ L, (Q v s₂.heap ∧ Fr nf L) ∧ FrameEnd s (.returned v) s₂ L rm.cells rm.slots
theorem Ctr.of {l : Launch} {Z : State} {y : MethodName} {bytes : ByteArray} {maxL : Nat} {rt : Option FieldType} {rm : Room} {as' : Array Value} {hs : Heap} {nf : Nat} {Q : Option Value → Heap → Prop} {n1 : Nat} (Ls : Array Slot) (hp : plainFor y = true) (hE : ∀ m, entryFrame m as' maxL = mkF m 0 Ls [])
    (B : ∀ (p : Program) (e : Env) (s : State) (m : MethodId) (below : List Frame) (meth : Method) (c : Code), Cx p s m meth c Z y.cls y.name bytes maxL rt → Go p l e rm s m as' below meth c (FinN s below rm nf Q) n1 hs 0 0 0 Ls []) : Ctr l Z y bytes maxL rt rm as' hs nf Q := by
  refine MetFree.of_bodySF hp hisR ?_
  intro p e s m args below meth c s₁ Bd hml0 hP hK
  obtain ⟨rfl, hZ, hh⟩ := hP
  have X0 : Stand p l e rm s m _ below meth c s₁ [] 0 0 := Stand.of_body Bd
  have e0 : s₁.heap = hs := by rw [← hh, Bd.state]; rfl
  obtain ⟨s₂, v, S, r1, r2, L, r3, r4⟩ := B p e s m below meth c ⟨Bd.exec, Bd.bytes, hml0, findClass_of_methodNamed Bd.named, hZ, (name_of_methodNamed Bd.named Bd.method).1, Bd.returns, Bd.notSynchronized⟩ s₁ [] X0 (Fr.nil _) e0
  exact ⟨s₂, _, castTop (hE m) S, r1, r2, v, L, rfl, r3, r4⟩
theorem fin_of {T : State} {locs : List Loc} {rm : Room} {nf : Nat} {Q : Option Value → Heap → Prop} {v : Option Value} {st' : List Value} (C : Cx p s m meth c Z own nm code ml ret) (X : Stand p l e R s m args below meth c T locs k n) (N : Fr n0 locs) (eT : T.heap = h) (hv : ret = none → v = none) (hn : nf ≤ n0) (hk : k ≤ rm.cells) (hl : n ≤ rm.slots) (hQ : Q v h)
    (H : ∀ fs, (∀ (f : JFrame) (acts : List Action), f.method = m → f.locked = none → f.entered = [] → (doReturn e (T.setTop f) acts v).1 = T.setFrames fs) → Steps p.tables e below (T.setTop (mkF m pc Ls st')) (T.setFrames fs)) :
    ∃ s₂ v, Steps p.tables e below (T.setTop (mkF m pc Ls st')) s₂ ∧ FinN s below rm nf Q s₂ v := by
  obtain ⟨fs, hr, hrun, hended, hW, hsame⟩ := X.leave (v := v) (fun hh => hv (C.2.2.2.2.2.2.1.symm.trans hh)) C.2.2.2.2.2.2.2
  exact ⟨_, v, H fs hr, hrun, hended, locs, ⟨by rw [show (T.setFrames fs).heap = h from eT]; exact hQ, fun y hy => Nat.le_trans hn (N y hy)⟩, ⟨v, rfl⟩, hW, hsame.mono hk hl⟩
theorem g_return {rm : Room} {nf : Nat} {Q : Option Value → Heap → Prop} (C : Cx p s m meth c Z own nm code ml none) (d : decode code pc = .ok (.return_, 1)) (hn : nf ≤ n0) (hk : k ≤ rm.cells) (hl : n ≤ rm.slots) (hQ : Q none h) : Go p l e R s m args below meth c (FinN s below rm nf Q) n0 h k n pc Ls [] :=
  fun T locs X N eT => fin_of C X N eT (fun _ => rfl) hn hk hl hQ fun fs hr => X.returnOut C.1 C.2.2.2.2.2.2.1 (hb C.2.1 d) hr
theorem g_ireturn {rm : Room} {nf : Nat} {Q : Option Value → Heap → Prop} {x : Int32} (C : Cx p s m meth c Z own nm code ml (some .int)) (d : decode code pc = .ok (.ireturn, 1)) (hn : nf ≤ n0) (hk : k ≤ rm.cells) (hl : n ≤ rm.slots) (hQ : Q (some (.int x)) h) : Go p l e R s m args below meth c (FinN s below rm nf Q) n0 h k n pc Ls (.int x :: st) :=
  fun T locs X N eT => fin_of C X N eT (fun hh => nomatch hh) hn hk hl hQ fun fs hr => retI X C.1 C.2.2.2.2.2.2.1 (hb C.2.1 d) hr
theorem g_nreturn {rm : Room} {nf : Nat} {Q : Option Value → Heap → Prop} {x z : Int32} {t : FieldType} (C : Cx p s m meth c Z own nm code ml (some t)) (d : decode code pc = .ok (.ireturn, 1)) (ht : t = .boolean ∨ t = .byte ∨ t = .char ∨ t = .short) (hz : nar t x = z) (hn : nf ≤ n0) (hk : k ≤ rm.cells) (hl : n ≤ rm.slots) (hQ : Q (some (.int z)) h) : Go p l e R s m args below meth c (FinN s below rm nf Q) n0 h k n pc Ls (.int x :: st) :=
  fun T locs X N eT => fin_of (v := some (.int z)) C X N eT (fun hh => nomatch hh) hn hk hl hQ fun fs hr => retN X C.1 C.2.2.2.2.2.2.1 ht (hb C.2.1 d) (by rw [hz]; exact hr)
theorem g_lreturn {rm : Room} {nf : Nat} {Q : Option Value → Heap → Prop} {x : Int64} (C : Cx p s m meth c Z own nm code ml (some .long)) (d : decode code pc = .ok (.lreturn, 1)) (hn : nf ≤ n0) (hk : k ≤ rm.cells) (hl : n ≤ rm.slots) (hQ : Q (some (.long x)) h) : Go p l e R s m args below meth c (FinN s below rm nf Q) n0 h k n pc Ls (.long x :: st) :=
  fun T locs X N eT => fin_of C X N eT (fun hh => nomatch hh) hn hk hl hQ fun fs hr => retOut X C.1 C.2.2.2.2.2.2.1 rfl (Or.inr (Or.inl ⟨rfl, rfl, x, rfl⟩)) (hb C.2.1 d) hr
theorem g_areturn {rm : Room} {nf : Nat} {Q : Option Value → Heap → Prop} {x : Value} {t : FieldType} (C : Cx p s m meth c Z own nm code ml (some t)) (d : decode code pc = .ok (.areturn, 1)) (ht : t.isReference = true) (hx : x.isRef = true) (hn : nf ≤ n0) (hk : k ≤ rm.cells) (hl : n ≤ rm.slots) (hQ : Q (some x) h) : Go p l e R s m args below meth c (FinN s below rm nf Q) n0 h k n pc Ls (x :: st) :=
  fun T locs X N eT => fin_of C X N eT (fun hh => nomatch hh) hn hk hl hQ fun fs hr => retOut X C.1 C.2.2.2.2.2.2.1 (by rcases ref_cases hx with rfl | ⟨a, rfl⟩ <;> cases t <;> first | rfl | cases ht) (Or.inr (Or.inr (Or.inr (Or.inr ⟨rfl, ht, hx⟩)))) (hb C.2.1 d) hr
/-- a callee that pays, at this walk -/
def BK (l : Launch) (R : Room) (p : Program) (e : Env) (below : List Frame) (s : State) (args : Array Value) (y : MethodName) (len W : Nat) (as' : Array Value) (h : Heap) (ck sk n0 : Nat) (Q : Option Value → Heap → Prop) : Prop :=
  Back l R p e below s args y len W (fun A a => a = as' ∧ A.U.heap = h ∧ A.cells + ck ≤ R.cells ∧ A.slots + sk ≤ R.slots) (fun A _ v B => ∃ L, (Q v B.U.heap ∧ Fr n0 L) ∧ B.locs = A.locs ++ L ∧ B.cells = A.cells + ck ∧ B.slots = A.slots + sk)
theorem Ctr.bk {y : MethodName} {bytes : ByteArray} {maxL len W : Nat} {rt : Option FieldType} {rm : Room} {as' : Array Value} {Q : Option Value → Heap → Prop} (M : Ctr l Z y bytes maxL rt rm as' h n0 Q) (C : Cx p s m meth c Z own nm code ml ret) (w4 : (Cond.code y bytes maxL rt).before a0 Z = true) (w3 : (Cond.initialized y.cls).before a0 Z = true) (hf : rm.frames + 1 ≤ R.frames) (hl : W + (maxL + 11) + rm.locals ≤ R.locals) : BK l R p e below s args y len W as' h rm.cells rm.slots n0 Q :=
  backOf (W := W) (Q := fun v h' L => Q v h' ∧ Fr n0 L) M C.2.2.2.2.1 w4 w3 hf hl
theorem g_callS (C : Cx p s m meth c Z own nm code ml ret) {y : MethodName} {bytes : ByteArray} {maxL ck sk : Nat} {rt : Option FieldType} {Q : Option Value → Heap → Prop} {index W : Nat} {argsL : List Value} (d : decode code pc = .ok (.invokestatic index, 3)) (w1 : (Cond.methodLink own index y).before a0 Z = true) (w2 : (Cond.static y).before a0 Z = true) (w3 : (Cond.initialized y.cls).before a0 Z = true) (w4 : (Cond.code y bytes maxL rt).before a0 Z = true) (hy : y.cls ≠ "java/lang/invoke/MethodHandle" ∧ y.cls ≠ "java/lang/invoke/VarHandle")
    (M : BK l R p e below s args y 3 W argsL.toArray h ck sk n0 Q) (hc : k + ck ≤ R.cells) (hs : n + sk ≤ R.slots) (hsz : Ls.size = ml) (hlen : ∀ sig, parseMethodDescriptor y.desc = some sig → argsL.length = sig.parameters.length) (hst : st = argsL.reverse ++ rest) (hW : (rest.map fun v => v.category).sum = W) (hq : pc + 3 = q)
    (K : ∀ v h', Q v h' → ∃ st', st' = v.toList ++ rest ∧ Go p l e R s m args below meth c Ph n0 h' (k + ck) (n + sk) q Ls st') : Go p l e R s m args below meth c Ph n0 h k n pc Ls st := fun T locs X N eT => by
  have hZ := C.2.2.2.2.1
  obtain ⟨v, vm1, ⟨T', L', k', n'⟩, -, X', ⟨L, ⟨hQ, NL⟩, l1, l2, l3⟩, stp⟩ := Jvm.LawKit.callS X C.1 (y := y) C.2.2.2.1 (mvT hZ w1) (mvT hZ w2) (mvT hZ w3) (mvT hZ w4) hy M (g := mkF m pc Ls st) rfl (hsz.trans C.2.2.1.symm) (argsL := argsL) (rest := rest) hlen hst (by show 2 * 0 + _ ≤ _; rw [hW]; omega) (hb C.2.1 d) (fun _ _ => ⟨rfl, eT, hc, hs⟩)
  dsimp only [Pt.U, Pt.locs, Pt.cells, Pt.slots] at X' l1 l2 l3 stp
  subst l1 l2 l3
  obtain ⟨st', hst', K'⟩ := K v _ hQ
  obtain ⟨s₂, v', S, r⟩ := K' _ _ X' (N.app NL) rfl
  exact ⟨s₂, v', stp _ (by subst hq hst'; exact S), r⟩
theorem g_callI (C : Cx p s m meth c Z own nm code ml ret) {y : MethodName} {bytes : ByteArray} {maxL ck sk : Nat} {Q : Option Value → Heap → Prop} {index W : Nat} {argsL : List Value} {a : Addr} (d : decode code pc = .ok (.invokespecial index, 3)) (hy1 : y.name = "<init>") (w1 : (Cond.methodLink own index y).before a0 Z = true) (w2 : (Cond.instanceMethod y).before a0 Z = true) (w4 : (Cond.code y bytes maxL none).before a0 Z = true) (hy : y.cls ≠ "java/lang/invoke/MethodHandle" ∧ y.cls ≠ "java/lang/invoke/VarHandle")
    (M : BK l R p e below s args y 3 W (.ref a :: argsL).toArray h ck sk n0 Q) (hc : k + ck ≤ R.cells) (hs : n + sk ≤ R.slots) (hsz : Ls.size = ml) (hlen : ∀ sig, parseMethodDescriptor y.desc = some sig → argsL.length = sig.parameters.length) (hst : st = argsL.reverse ++ .ref a :: rest) (hW : (rest.map fun v => v.category).sum = W) (hq : pc + 3 = q)
    (K : ∀ v h', Q v h' → ∃ st', st' = v.toList ++ rest ∧ Go p l e R s m args below meth c Ph n0 h' (k + ck) (n + sk) q Ls st') : Go p l e R s m args below meth c Ph n0 h k n pc Ls st := fun T locs X N eT => by
  have hZ := C.2.2.2.2.1
  obtain ⟨v, vm1, ⟨T', L', k', n'⟩, -, X', ⟨L, ⟨hQ, NL⟩, l1, l2, l3⟩, stp⟩ := X.specialBack C.1 (y := y) hy1 C.2.2.2.1 (mvT hZ w1) (mvT hZ w2) (mvT hZ w4) hy M (g := mkF m pc Ls st) rfl (hsz.trans C.2.2.1.symm) (Steps.refl _) (a := a) (argsL := argsL) (rest := rest) hlen hst (by show 2 * 0 + _ ≤ _; rw [hW]; omega) (hb C.2.1 d) (fun _ _ => ⟨rfl, eT, hc, hs⟩)
  dsimp only [Pt.U, Pt.locs, Pt.cells, Pt.slots] at X' l1 l2 l3 stp
  subst l1 l2 l3
  obtain ⟨st', hst', K'⟩ := K v _ hQ
  obtain ⟨s₂, v', S, r⟩ := K' _ _ X' (N.app NL) rfl
  exact ⟨s₂, v', stp.trans (by subst hq hst'; exact S), r⟩
theorem g_callV (C : Cx p s m meth c Z own nm code ml ret) {y : MethodName} {ck sk : Nat} {Q : Option Value → Heap → Prop} {index W : Nat} {argsL : List Value} {y0 : MethodName} {Cl : String} {a : Addr} (d : decode code pc = .ok (.invokevirtual index, 3)) (w1 : (Cond.methodLink own index y0).before a0 Z = true) (w2 : (Cond.declares y0).before a0 Z = true) (w5 : (Cond.selects Cl y0 y).before a0 Z = true) (w6 : (Cond.instanceMethod y).before a0 Z = true) (hy : y0.cls ≠ "java/lang/invoke/MethodHandle" ∧ y0.cls ≠ "java/lang/invoke/VarHandle") (hnf : NotFace s y0)
    (E : Exa Z h a Cl) (M : BK l R p e below s args y 3 W (.ref a :: argsL).toArray h ck sk n0 Q) (hc : k + ck ≤ R.cells) (hs : n + sk ≤ R.slots) (hsz : Ls.size = ml) (hlen : ∀ sig, parseMethodDescriptor y0.desc = some sig → argsL.length = sig.parameters.length) (hst : st = argsL.reverse ++ .ref a :: rest) (hW : (rest.map fun v => v.category).sum = W) (hq : pc + 3 = q)
    (K : ∀ v h', Q v h' → ∃ st', st' = v.toList ++ rest ∧ Go p l e R s m args below meth c Ph n0 h' (k + ck) (n + sk) q Ls st') : Go p l e R s m args below meth c Ph n0 h k n pc Ls st := fun T locs X N eT => by
  have hZ := C.2.2.2.2.1
  obtain ⟨cq, kq, qa, qb, qc⟩ := isOf hZ eT E
  obtain ⟨v, vm1, ⟨T', L', k', n'⟩, -, X', ⟨L, ⟨hQ, NL⟩, l1, l2, l3⟩, stp⟩ := X.virtualBack C.1 (y := y0) (z := y) C.2.2.2.1 (mvT hZ w1) (mvT hZ w2) hnf (mvT hZ w5) (mvT hZ w6) hy M qa qc (g := mkF m pc Ls st) rfl (hsz.trans C.2.2.1.symm) (Steps.refl _) (argsL := argsL) (rest := rest) hlen hst (by show 2 * 0 + _ ≤ _; rw [hW]; omega) (hb C.2.1 d) (fun _ _ => ⟨rfl, eT, hc, hs⟩)
  dsimp only [Pt.U, Pt.locs, Pt.cells, Pt.slots] at X' l1 l2 l3 stp
  subst l1 l2 l3
  obtain ⟨st', hst', K'⟩ := K v _ hQ
  obtain ⟨s₂, v', S, r⟩ := K' _ _ X' (N.app NL) rfl
  exact ⟨s₂, v', stp.trans (by subst hq hst'; exact S), r⟩
theorem g_callVU (C : Cx p s m meth c Z own nm code ml ret) {y : MethodName} {ck sk : Nat} {Q : Option Value → Heap → Prop} {index W : Nat} {argsL : List Value} {y0 : MethodName} {owner : String} {Cl : String} {a : Addr} (d : decode code pc = .ok (.invokevirtual index, 3)) (w1 : (Cond.methodLink own index y0).before a0 Z = true) (ws : (Cond.sameMethod y0.cls owner y0.name y0.desc).before a0 Z = true) (w2 : (Cond.declares ⟨owner, y0.name, y0.desc⟩).before a0 Z = true) (w5 : (Cond.selects Cl y0 y).before a0 Z = true) (w6 : (Cond.instanceMethod y).before a0 Z = true) (hy : owner ≠ "java/lang/invoke/MethodHandle" ∧ owner ≠ "java/lang/invoke/VarHandle")
    (E : Exa Z h a Cl) (M : BK l R p e below s args y 3 W (.ref a :: argsL).toArray h ck sk n0 Q) (hc : k + ck ≤ R.cells) (hs : n + sk ≤ R.slots) (hsz : Ls.size = ml) (hlen : ∀ sig, parseMethodDescriptor y0.desc = some sig → argsL.length = sig.parameters.length) (hst : st = argsL.reverse ++ .ref a :: rest) (hW : (rest.map fun v => v.category).sum = W) (hq : pc + 3 = q)
    (K : ∀ v h', Q v h' → ∃ st', st' = v.toList ++ rest ∧ Go p l e R s m args below meth c Ph n0 h' (k + ck) (n + sk) q Ls st') : Go p l e R s m args below meth c Ph n0 h k n pc Ls st := fun T locs X N eT => by
  have hZ := C.2.2.2.2.1
  obtain ⟨cq, kq, qa, qb, qc⟩ := isOf hZ eT E
  obtain ⟨v, vm1, ⟨T', L', k', n'⟩, -, X', ⟨L, ⟨hQ, NL⟩, l1, l2, l3⟩, stp⟩ := X.virtualBackUp C.1 (x := y0) (y := y) C.2.2.2.1 (mvT hZ w1) (mvT hZ ws) (mvT hZ w2) hy (mvT hZ w5) (mvT hZ w6) M qa qc (g := mkF m pc Ls st) rfl (hsz.trans C.2.2.1.symm) (Steps.refl _) (argsL := argsL) (rest := rest) hlen hst (by show 2 * 0 + _ ≤ _; rw [hW]; omega) (hb C.2.1 d) (fun _ _ => ⟨rfl, eT, hc, hs⟩)
  dsimp only [Pt.U, Pt.locs, Pt.cells, Pt.slots] at X' l1 l2 l3 stp
  subst l1 l2 l3
  obtain ⟨st', hst', K'⟩ := K v _ hQ
  obtain ⟨s₂, v', S, r⟩ := K' _ _ X' (N.app NL) rfl
  exact ⟨s₂, v', stp.trans (by subst hq hst'; exact S), r⟩
theorem g_callP (C : Cx p s m meth c Z own nm code ml ret) {y : MethodName} {bytes : ByteArray} {maxL ck sk : Nat} {rt : Option FieldType} {Q : Option Value → Heap → Prop} {index W : Nat} {argsL : List Value} {Cl : String} {a : Addr} (d : decode code pc = .ok (.invokevirtual index, 3)) (w1 : (Cond.methodLink own index y).before a0 Z = true) (w2 : (Cond.instanceMethod y).before a0 Z = true) {kk : Nat} (wi : (Cond.instantiable y.cls kk).before a0 Z = true) (w4 : (Cond.code y bytes maxL rt).before a0 Z = true) (hy : y.cls ≠ "java/lang/invoke/MethodHandle" ∧ y.cls ≠ "java/lang/invoke/VarHandle") (hpr : s.PrivateAt y)
    (E : Exa Z h a Cl) (M : BK l R p e below s args y 3 W (.ref a :: argsL).toArray h ck sk n0 Q) (hc : k + ck ≤ R.cells) (hs : n + sk ≤ R.slots) (hsz : Ls.size = ml) (hlen : ∀ sig, parseMethodDescriptor y.desc = some sig → argsL.length = sig.parameters.length) (hst : st = argsL.reverse ++ .ref a :: rest) (hW : (rest.map fun v => v.category).sum = W) (hq : pc + 3 = q)
    (K : ∀ v h', Q v h' → ∃ st', st' = v.toList ++ rest ∧ Go p l e R s m args below meth c Ph n0 h' (k + ck) (n + sk) q Ls st') : Go p l e R s m args below meth c Ph n0 h k n pc Ls st := fun T locs X N eT => by
  have hZ := C.2.2.2.2.1
  obtain ⟨ce, hce, hob⟩ := E.cell
  obtain ⟨ci, ki, hci, hki, -, hni, -⟩ := Cond.instantiable_spec (mv (args := args) hZ wi)
  simp only [Bool.or_eq_false_iff] at hni
  have w5 : (Cond.selects y.cls y y).before args s = true := Jvm.Stand.selects_self_of_private hci hki hni.1 hpr (mvT hZ w2) hy
  obtain ⟨v, vm1, ⟨T', L', k', n'⟩, -, X', ⟨L, ⟨hQ, NL⟩, l1, l2, l3⟩, stp⟩ := X.privateBack C.1 (y := y) C.2.2.2.1 (mvT hZ w1) (mvT hZ w2) w5 hpr (mvT hZ w4) hy M (g := mkF m pc Ls st) rfl (hsz.trans C.2.2.1.symm) (Steps.refl _) (a := a) (cell := ce) (by rw [eT]; exact hce) hob (argsL := argsL) (rest := rest) hlen hst (by show 2 * 0 + _ ≤ _; rw [hW]; omega) (hb C.2.1 d) (fun _ _ => ⟨rfl, eT, hc, hs⟩)
  dsimp only [Pt.U, Pt.locs, Pt.cells, Pt.slots] at X' l1 l2 l3 stp
  subst l1 l2 l3
  obtain ⟨st', hst', K'⟩ := K v _ hQ
  obtain ⟨s₂, v', S, r⟩ := K' _ _ X' (N.app NL) rfl
  exact ⟨s₂, v', stp.trans (by subst hq hst'; exact S), r⟩
theorem g_callQ (C : Cx p s m meth c Z own nm code ml ret) {y : MethodName} {bytes : ByteArray} {maxL ck sk : Nat} {rt : Option FieldType} {Q : Option Value → Heap → Prop} {index W : Nat} {argsL : List Value} {Cl : String} {a : Addr} (d : decode code pc = .ok (.invokevirtual index, 3)) (w1 : (Cond.methodLink own index y).before a0 Z = true) (w2 : (Cond.instanceMethod y).before a0 Z = true) {Cs : String} (wsel : (Cond.selects Cs y y).before a0 Z = true) (w4 : (Cond.code y bytes maxL rt).before a0 Z = true) (hy : y.cls ≠ "java/lang/invoke/MethodHandle" ∧ y.cls ≠ "java/lang/invoke/VarHandle") (hpr : s.PrivateAt y)
    (E : Exa Z h a Cl) (M : BK l R p e below s args y 3 W (.ref a :: argsL).toArray h ck sk n0 Q) (hc : k + ck ≤ R.cells) (hs : n + sk ≤ R.slots) (hsz : Ls.size = ml) (hlen : ∀ sig, parseMethodDescriptor y.desc = some sig → argsL.length = sig.parameters.length) (hst : st = argsL.reverse ++ .ref a :: rest) (hW : (rest.map fun v => v.category).sum = W) (hq : pc + 3 = q)
    (K : ∀ v h', Q v h' → ∃ st', st' = v.toList ++ rest ∧ Go p l e R s m args below meth c Ph n0 h' (k + ck) (n + sk) q Ls st') : Go p l e R s m args below meth c Ph n0 h k n pc Ls st := fun T locs X N eT => by
  have hZ := C.2.2.2.2.1
  obtain ⟨ce, hce, hob⟩ := E.cell
  obtain ⟨c2, r2, m2, -, -, q3, -, kP, hkP, hkPi⟩ := Cond.selects_spec (mvT (args := args) hZ wsel)
  have w5 : (Cond.selects y.cls y y).before args s = true := Jvm.Stand.selects_self_of_private (findClass_of_methodNamed q3) hkP hkPi hpr (mvT hZ w2) hy
  obtain ⟨v, vm1, ⟨T', L', k', n'⟩, -, X', ⟨L, ⟨hQ, NL⟩, l1, l2, l3⟩, stp⟩ := X.privateBack C.1 (y := y) C.2.2.2.1 (mvT hZ w1) (mvT hZ w2) w5 hpr (mvT hZ w4) hy M (g := mkF m pc Ls st) rfl (hsz.trans C.2.2.1.symm) (Steps.refl _) (a := a) (cell := ce) (by rw [eT]; exact hce) hob (argsL := argsL) (rest := rest) hlen hst (by show 2 * 0 + _ ≤ _; rw [hW]; omega) (hb C.2.1 d) (fun _ _ => ⟨rfl, eT, hc, hs⟩)
  dsimp only [Pt.U, Pt.locs, Pt.cells, Pt.slots] at X' l1 l2 l3 stp
  subst l1 l2 l3
  obtain ⟨st', hst', K'⟩ := K v _ hQ
  obtain ⟨s₂, v', S, r⟩ := K' _ _ X' (N.app NL) rfl
  exact ⟨s₂, v', stp.trans (by subst hq hst'; exact S), r⟩
theorem same_of {Z : State} {a0 : Array Value} {Cs : String} {y y1 y2 : MethodName} (w3 : (Cond.instanceMethod y).before a0 Z = true) (wsel : (Cond.selects Cs y1 y2).before a0 Z = true) (hc : y2.cls = y.cls) (hy : y.cls ≠ "java/lang/invoke/MethodHandle" ∧ y.cls ≠ "java/lang/invoke/VarHandle") : (Cond.sameMethod y.cls y.cls y.name y.desc).before a0 Z = true := by
  obtain ⟨mk, methM, hnamed, hmethM, -, -⟩ := Cond.instanceMethod_spec w3
  obtain ⟨c2, r2, m2, -, -, q3, -, kP, hkP, hkPi⟩ := Cond.selects_spec wsel
  have hf := State.methodFound?_of_named hnamed hy
  have h1 := findClass_of_methodNamed hnamed
  have h2 := findClass_of_methodNamed q3
  rw [hc, h1] at h2
  have e := Option.some.inj h2
  rw [← e] at hkP
  have hn' : Z.methodNamed? ⟨y.cls, y.name, y.desc⟩ = some mk := hnamed
  simp [Cond.before, Cond.holds, Cond.value, h1, hf, hn', hkP, hkPi]
theorem g_callU (C : Cx p s m meth c Z own nm code ml ret) {y : MethodName} {bytes : ByteArray} {maxL ck sk : Nat} {rt : Option FieldType} {Q : Option Value → Heap → Prop} {index W : Nat} {argsL : List Value} {Cl Cs : String} {y1 y2 : MethodName} {a : Addr} (d : decode code pc = .ok (.invokespecial index, 3)) (w1 : (Cond.methodLink own index y).before a0 Z = true) (w3 : (Cond.instanceMethod y).before a0 Z = true) (w4 : (Cond.superclass own y.cls).before a0 Z = true) (wsel : (Cond.selects Cs y1 y2).before a0 Z = true) (hcl : y2.cls = y.cls) (hni : y.name ≠ "<init>") (wc : (Cond.code y bytes maxL rt).before a0 Z = true) (hy : y.cls ≠ "java/lang/invoke/MethodHandle" ∧ y.cls ≠ "java/lang/invoke/VarHandle")
    (E : Exa Z h a Cl) (M : BK l R p e below s args y 3 W (.ref a :: argsL).toArray h ck sk n0 Q) (hc : k + ck ≤ R.cells) (hs : n + sk ≤ R.slots) (hsz : Ls.size = ml) (hlen : ∀ sig, parseMethodDescriptor y.desc = some sig → argsL.length = sig.parameters.length) (hst : st = argsL.reverse ++ .ref a :: rest) (hW : (rest.map fun v => v.category).sum = W) (hq : pc + 3 = q)
    (K : ∀ v h', Q v h' → ∃ st', st' = v.toList ++ rest ∧ Go p l e R s m args below meth c Ph n0 h' (k + ck) (n + sk) q Ls st') : Go p l e R s m args below meth c Ph n0 h k n pc Ls st := fun T locs X N eT => by
  have hZ := C.2.2.2.2.1
  obtain ⟨v, vm1, ⟨T', L', k', n'⟩, -, X', ⟨L, ⟨hQ, NL⟩, l1, l2, l3⟩, stp⟩ := superBack X C.1 hZ C.2.2.2.1 w1 (same_of w3 wsel hcl hy) w3 w4 hni M eT (Ins.self E) (g := mkF m pc Ls st) rfl (hsz.trans C.2.2.1.symm) wc (argsL := argsL) (rest := rest) hlen hst (by show 2 * 0 + _ ≤ _; rw [hW]; omega) (hb C.2.1 d) (fun _ _ => ⟨rfl, eT, hc, hs⟩)
  dsimp only [Pt.U, Pt.locs, Pt.cells, Pt.slots] at X' l1 l2 l3 stp
  subst l1 l2 l3
  obtain ⟨st', hst', K'⟩ := K v _ hQ
  obtain ⟨s₂, v', S, r⟩ := K' _ _ X' (N.app NL) rfl
  exact ⟨s₂, v', stp.trans (by subst hq hst'; exact S), r⟩
theorem g_callF (C : Cx p s m meth c Z own nm code ml ret) {y : MethodName} {ck sk : Nat} {Q : Option Value → Heap → Prop} {index W : Nat} {argsL : List Value} {xi : MethodName} {Cl : String} {a : Addr} {count : Nat} (d : decode code pc = .ok (.invokeinterface index count, 5)) (w1 : (Cond.methodLink own index xi).before a0 Z = true) (w2 : (Cond.declares xi).before a0 Z = true) (w3 : (Cond.interfaceMethod xi.cls xi.cls xi.name xi.desc).before a0 Z = true) (w5 : (Cond.selects Cl xi y).before a0 Z = true) (w6 : (Cond.instanceMethod y).before a0 Z = true) (w7 : (Cond.publicMethod y).before a0 Z = true) (w8 : (Cond.unhidden Cl xi.name xi.desc).before a0 Z = true) (w9 : (Cond.castable Cl xi.cls).before a0 Z = true) (hfa : ((Cond.interfaceMethod xi.cls xi.cls xi.name xi.desc).onTables && (Cond.interfaceMethod xi.cls xi.cls xi.name xi.desc).keepsFace) = true) (hy : xi.cls ≠ "java/lang/invoke/MethodHandle" ∧ xi.cls ≠ "java/lang/invoke/VarHandle")
    (E : Exa Z h a Cl) (M : BK l R p e below s args y 5 W (.ref a :: argsL).toArray h ck sk n0 Q) (hc : k + ck ≤ R.cells) (hs : n + sk ≤ R.slots) (hsz : Ls.size = ml) (hlen : ∀ sig, parseMethodDescriptor xi.desc = some sig → argsL.length = sig.parameters.length) (hst : st = argsL.reverse ++ .ref a :: rest) (hW : (rest.map fun v => v.category).sum = W) (hq : pc + 5 = q)
    (K : ∀ v h', Q v h' → ∃ st', st' = v.toList ++ rest ∧ Go p l e R s m args below meth c Ph n0 h' (k + ck) (n + sk) q Ls st') : Go p l e R s m args below meth c Ph n0 h k n pc Ls st := fun T locs X N eT => by
  have hZ := C.2.2.2.2.1
  obtain ⟨cq, kq, qa, qb, qc⟩ := isOf hZ eT E
  obtain ⟨v, vm1, ⟨T', L', k', n'⟩, -, X', ⟨L, ⟨hQ, NL⟩, l1, l2, l3⟩, stp⟩ := X.interfaceBack C.1 (xi := xi) (y := y) C.2.2.2.1 (mvT hZ w1) (mvT hZ w2) (mvT hZ w3 hfa) (mvT hZ w5) (mvT hZ w6) (mvT hZ w7) (mvT hZ w8) (mvT hZ w9) hy M qa qb qc (g := mkF m pc Ls st) rfl (hsz.trans C.2.2.1.symm) (Steps.refl _) (argsL := argsL) (rest := rest) hlen hst (by show 2 * 0 + _ ≤ _; rw [hW]; omega) (hb C.2.1 d) (fun _ _ => ⟨rfl, eT, hc, hs⟩)
  dsimp only [Pt.U, Pt.locs, Pt.cells, Pt.slots] at X' l1 l2 l3 stp
  subst l1 l2 l3
  obtain ⟨st', hst', K'⟩ := K v _ hQ
  obtain ⟨s₂, v', S, r⟩ := K' _ _ X' (N.app NL) rfl
  exact ⟨s₂, v', stp.trans (by subst hq hst'; exact S), r⟩
theorem nf_of {y : MethodName} {Cl : String} (C : Cx p s m meth c Z own nm code ml ret) (w : (Cond.selects Cl y y).before a0 Z = true) : NotFace s y := notFace_of_selects (args := #[]) (mvT C.2.2.2.2.1 w)
theorem nf_of2 {y y1 y2 : MethodName} {Cl : String} (C : Cx p s m meth c Z own nm code ml ret) (w : (Cond.selects Cl y1 y2).before a0 Z = true) (hc : y2.cls = y.cls) : NotFace s y := fun r0 hr => by
  obtain ⟨c2, r2, m2, -, -, q3, -, kP, hkP, hkPi⟩ := Cond.selects_spec (mvT (args := #[]) C.2.2.2.2.1 w)
  have h1 := findClass_of_methodNamed hr
  have h2 := findClass_of_methodNamed q3
  rw [hc, h1] at h2
  have e := Option.some.inj h2
  rw [← e] at hkP
  exact ⟨kP, hkP, hkPi⟩
theorem priv_of {y : MethodName} (C : Cx p s m meth c Z own nm code ml ret) (w : (Cond.privateMethod y).before a0 Z = true) : s.PrivateAt y := Cond.privateMethod_at (args := #[]) (mvP C.2.2.2.2.1 w)
theorem Av.arv {a : Addr} {ty : FieldType} {N : Nat} {f : Nat → Value} {vs : List Value} {dv : Value} (A : Av Z h a ty N f) (hf : ∀ j, j < N → f j = vs.getD j dv) (hfit : ∀ j, j < N → fits ty (vs.getD j dv) = true) : ∃ kA, Arv Z h a kA ty (Int32.ofNat N) vs dv := by
  obtain ⟨c', A, r1, r2, r3⟩ := A
  have e : (Int32.ofNat N).toNatClampNeg = N := Int32.toNatClampNeg_ofNat_of_lt r2
  refine ⟨c'.cls, c', A, rfl, by rw [e]; exact r1, ?_, fun j hj => by rw [r3 j (r1 ▸ hj), hf j (r1 ▸ hj)], fun j hj => hfit j (r1 ▸ hj)⟩
  intro q
  have := Int32.lt_iff_toInt_lt.mp q
  rw [Int32.toInt_ofNat_of_lt r2] at this
  simp at this
  omega
theorem app_less {ws : List Cond} {c0 : Cond} {rm : Room} {y : MethodName} {pl : Platform} {sa : State} {ma : MethodId} {aa : Array Value} {ba : List Frame} (hf : sa.frames = .invoking ma aa :: ba) (hh : (head1 (c0 :: ws) rm).appliesLoose y pl sa = true) : (head1 [c0] rm).appliesLoose y pl sa = true := by
  obtain ⟨h1, h2, h3, h4, h5, h6, h7, h8⟩ := (Spec.appliesLoose_iff hf).mp hh
  refine (Spec.appliesLoose_iff hf).mpr ⟨h1, h2, h3, h4, h5, h6, h7, ?_⟩
  show (Cond.and c0 .tt).before aa sa = true
  rw [Cond.before_and, atoms_spec (ws := c0 :: ws) h8 c0 (List.mem_cons_self ..)]; rfl
theorem own_cat {v : Value} (hr : v.isRef = true) : v.category = 1 := by rcases ref_cases hr with rfl | ⟨a, rfl⟩ <;> rfl
theorem own_nar {v : Value} {cn : String} (hr : v.isRef = true) : narrow (.object cn) v = v := by rcases ref_cases hr with rfl | ⟨a, rfl⟩ <;> rfl
theorem own_fit {v : Value} {cn : String} (hr : v.isRef = true) : fits (.object cn) v = true := by rcases ref_cases hr with rfl | ⟨a, rfl⟩ <;> rfl
theorem Ext.keep {h0 h h' : Heap} {ws : List Addr} (E : Ext h0 h) (K : Keep h h' ws) (q : ∀ x ∈ ws, h0.size ≤ x) : Ext h0 h' := ⟨Nat.le_trans E.1 K.1, fun a c hc => K.2.1 a c (E.2 a c hc) fun hm => Nat.not_lt.mpr (q a hm) (Array.getElem?_eq_some_iff.mp hc).1⟩
theorem Ext.wr {h0 h h' : Heap} {a : Addr} {sl : Nat} {v : Value} (E : Ext h0 h) (W : Wr h h' a sl v) (q : h0.size ≤ a) : Ext h0 h' := Ext.keep E (Keep.of_wr W) fun x hx => by cases List.mem_singleton.mp hx; exact q
theorem Ext.tr {h0 h h' : Heap} (E : Ext h0 h) (E' : Ext h h') : Ext h0 h' := ⟨Nat.le_trans E.1 E'.1, fun a c hc => E'.2 a c (E.2 a c hc)⟩
theorem Ext.rfl' (h : Heap) : Ext h h := ⟨Nat.le_refl _, fun _ _ q => q⟩
theorem Ext.kp {h h' : Heap} (E : Ext h h') (ws : List Addr) : Keep h h' ws := (Keep.refl h ws).ext E
/-- an array of references of a class, which takes its objects -/
def Ao (Z : State) (h : Heap) (a : Addr) (Cl : String) (N : Nat) (f : Nat → Value) : Prop := ∃ c : Cell, Arr Z h a c (.object Cl) ∧ Ovr Z c.cls Cl ∧ c.slots.size = N ∧ N < 2 ^ 31 ∧ ∀ j, j < N → c.slots[j]? = some (f j)
theorem Ao.av {a : Addr} {Cl : String} {N : Nat} {f : Nat → Value} (A : Ao Z h a Cl N f) : Av Z h a (.object Cl) N f := by obtain ⟨c, A, -, r⟩ := A; exact ⟨c, A, r⟩
theorem Ao.lt {a : Addr} {Cl : String} {N : Nat} {f : Nat → Value} (A : Ao Z h a Cl N f) : a < h.size := A.av.lt
theorem Ao.ext {h' : Heap} {a : Addr} {Cl : String} {N : Nat} {f : Nat → Value} (A : Ao Z h a Cl N f) (E : Ext h h') : Ao Z h' a Cl N f := by obtain ⟨c, A, r⟩ := A; exact ⟨c, A.ext E, r⟩
theorem Ao.other {h' : Heap} {a b : Addr} {Cl : String} {N sl : Nat} {v : Value} {f : Nat → Value} (A : Ao Z h b Cl N f) (W : Wr h h' a sl v) (ne : b ≠ a) : Ao Z h' b Cl N f := by obtain ⟨c, A, r⟩ := A; exact ⟨c, A.other W ne, r⟩
theorem Ao.keep {h' : Heap} {a : Addr} {Cl : String} {N : Nat} {f : Nat → Value} {ws : List Addr} (A : Ao Z h a Cl N f) (K : Keep h h' ws) (ne : a ∉ ws) : Ao Z h' a Cl N f := by obtain ⟨c, A, r⟩ := A; exact ⟨c, ⟨K.2.1 a c A.1 ne, A.2⟩, r⟩
theorem Ao.set {h' : Heap} {a : Addr} {Cl : String} {N i : Nat} {v : Value} {f : Nat → Value} (A : Ao Z h a Cl N f) (W : Wr h h' a i v) (hi : i < N) : Ao Z h' a Cl N (fun j => if j = i then v else f j) := by
  obtain ⟨c, A, O, r1, r2, r3⟩ := A
  refine ⟨c.setSlot i v, A.same W, O, by rw [sz_set]; exact r1, r2, fun j hj => ?_⟩
  by_cases e : j = i
  · subst e; simp [Cell.setSlot, r1, hi]
  · show (c.setSlot i v).slots[j]? = some (if j = i then v else f j)
    rw [if_neg e, ← r3 j hj]; simp [Cell.setSlot, Array.getElem?_setIfInBounds_ne (Ne.symm e)]
theorem Ao.sto {a y : Addr} {Cl : String} {N : Nat} {f : Nat → Value} (A : Ao Z h a Cl N f) (I : Ins Z h y Cl true) : Sto Z h a (.ref y) := by obtain ⟨c, A, O, -⟩ := A; exact Sto.of A O I
theorem Ao.new {a : Addr} {Cl : String} {cA : ClassId} {N' : Int32} (A : Arr Z h a (newA cA (.object Cl) N') (.object Cl)) (O : Ovr Z cA Cl) (hn : ¬ N' < 0) : Ao Z h a Cl N'.toNatClampNeg (fun _ => .null) :=
  ⟨_, A, O, sz_new _ _ _, (back32 hn).2, fun j hj => by simp [newA, hj, defaultValue]⟩
theorem Av.fitc {a : Addr} {ty : FieldType} {N : Nat} {f : Nat → Value} (A : Av Z h a ty N f) (hf : ∀ j, j < N → fits ty (f j) = true) : ∃ cl, Arr Z h a cl ty ∧ cl.slots.size = N ∧ N < 2 ^ 31 ∧ (∀ j, j < N → cl.slots[j]? = some (f j)) ∧ FitC Z cl := by
  obtain ⟨cl, A, r1, r2, r3⟩ := A
  refine ⟨cl, A, r1, r2, r3, fun i v hv => ?_⟩
  obtain ⟨hi, -⟩ := Array.getElem?_eq_some_iff.mp hv
  obtain ⟨hs, kk, hk, comp, hkind⟩ := A.2.1
  have e1 := r3 i (r1 ▸ hi)
  rw [hv] at e1
  cases e1
  simp [State.fitsSlot, State.slotType?, hk, hkind, hf i (r1 ▸ hi)]
theorem g_newarrayE (C : Cx p s m meth c Z own nm code ml ret) {aty : ArrayType} {N' : Int32} {cap : Nat} {ad : String} (d : decode code pc = .ok (.newarray aty, 2)) (w : (Cond.arrayClass (newarray.typeOf aty)).before a0 Z = true) (hn : ¬ N' < 0) (hcap : N'.toNatClampNeg ≤ cap) (hbg : cap * 8 ≤ 536870912) (hc : k + 1 ≤ R.cells) (hl : n + cap ≤ R.slots) (had : "[" ++ (newarray.typeOf aty).toString = ad) (hq : pc + 2 = q)
    (K : ∀ (a : Addr) (h' : Heap) (cA : ClassId), a = h.size → Ext h h' → Arr Z h' a (newA cA (newarray.typeOf aty) N') (newarray.typeOf aty) → Exa Z h' a ad → Go p l e R s m args below meth c Ph n0 h' (k + 1) (n + cap) q Ls (.ref a :: st)) : Go p l e R s m args below meth c Ph n0 h k n pc Ls (.int N' :: st) := fun T locs X N eT => by
  obtain ⟨T', h', cA, X', e', E, A, EA, stp⟩ := newPE X C.1 C.2.2.2.2.1 w eT (g := mkF m pc Ls (.int N' :: st)) rfl (hb C.2.1 d) rfl hn hcap hbg hc hl had
  obtain ⟨s₂, v, S, r⟩ := K _ h' cA rfl E A EA T' locs X' N e'
  exact ⟨s₂, v, stp _ (by subst hq; exact S), r⟩
theorem g_clone (C : Cx p s m meth c Z own nm code ml ret) {ad : String} {index W cap N : Nat} {a : Addr} {ty : FieldType} {f : Nat → Value} (d : decode code pc = .ok (.invokevirtual index, 3)) (w1 : (Cond.methodLink own index ⟨ad, "clone", "()Ljava/lang/Object;"⟩).before a0 Z = true) (w2 : (Cond.sameMethod ad "java/lang/Object" "clone" "()Ljava/lang/Object;").before a0 Z = true) (w3 : (Cond.native ⟨"java/lang/Object", "clone", "()Ljava/lang/Object;"⟩).before a0 Z = true)
    (w4 : (Cond.instanceMethod ⟨"java/lang/Object", "clone", "()Ljava/lang/Object;"⟩).before a0 Z = true) (w5 : (Cond.selects ad ⟨ad, "clone", "()Ljava/lang/Object;"⟩ ⟨"java/lang/Object", "clone", "()Ljava/lang/Object;"⟩).before a0 Z = true) (w6 : (Cond.castable ad "java/lang/Cloneable").before a0 Z = true)
    (A : Av Z h a ty N f) (hfit : ∀ j, j < N → fits ty (f j) = true) (E : Exa Z h a ad) (hsz : Ls.size = ml) (hf : 1 ≤ R.frames) (hW : (st.map fun v => v.category).sum = W) (hl : W + 14 ≤ R.locals) (hcap : N ≤ cap) (hc : k + 1 ≤ R.cells) (hsl : n + cap ≤ R.slots) (hq : pc + 3 = q)
    (K : ∀ (b : Addr) (h' : Heap), b = h.size → Ext h h' → Av Z h' b ty N f → Exa Z h' b ad → Go p l e R s m args below meth c Ph n0 h' (k + 1) (n + cap) q Ls (.ref b :: st)) : Go p l e R s m args below meth c Ph n0 h k n pc Ls (.ref a :: st) := fun T locs X N' eT => by
  obtain ⟨cl, A, r1, r2, r3, FC⟩ := A.fitc hfit
  obtain ⟨T', h', X', e', E', A', EA, stp⟩ := cloneA X C.1 C.2.2.2.2.1 C.2.2.2.1 w1 w2 w3 w4 w5 w6 eT A E FC (g := mkF m pc Ls (.ref a :: st)) rfl (hsz.trans C.2.2.1.symm) rfl (hb C.2.1 d) hf (W := W) (cap := cap) (by show 2 * 0 + _ ≤ _; rw [hW]; omega) hl (by rw [r1]; exact hcap) hc hsl
  obtain ⟨s₂, v, S, r⟩ := K _ h' rfl E' ⟨_, A', r1, r2, r3⟩ EA T' locs X' N' e'
  exact ⟨s₂, v, stp _ (by subst hq; exact S), r⟩
theorem Av.rng {a : Addr} {ty : FieldType} {N : Nat} {f : Nat → Value} (A : Av Z h a ty N f) (hf : ∀ j, j < N → fits ty (f j) = true) (dv : Value) : ∃ kA, Arv Z h a kA ty (Int32.ofNat N) ((List.range N).map f) dv :=
  A.arv (fun j hj => by simp [List.getD, hj]) (fun j hj => by simpa [List.getD, hj] using hf j hj)
theorem Av.of_arv {a : Addr} {ty : FieldType} {N : Nat} {kA : ClassId} {z : Int32} {vs : List Value} {dv : Value} (A : Arv Z h a kA ty z vs dv) (hz : z.toNatClampNeg = N) : Av Z h a ty N (fun j => vs.getD j dv) := by
  obtain ⟨c', A, -, r1, r2, H, -⟩ := A
  rw [hz] at r1
  exact ⟨c', A, r1, by rw [← hz]; exact (back32 r2).2, fun j hj => H j (by rw [r1]; exact hj)⟩
theorem nn32 {i : Nat} (hi : i < 2 ^ 31) : ¬ Int32.ofNat i < 0 := by
  rw [Int32.lt_iff_toInt_lt, Int32.toInt_ofNat_of_lt hi]; have e0 : (0 : Int32).toInt = 0 := rfl; omega
theorem g_acopy (C : Cx p s m meth c Z own nm code ml ret) {index W N M sp dp nn : Nat} {a b : Addr} {ty : FieldType} {f f' : Nat → Value} {i1 i2 i3 : Int32} (d : decode code pc = .ok (.invokestatic index, 3)) (w1 : (Cond.methodLink own index Jvm.Stand.acN).before a0 Z = true) (w2 : (Cond.native Jvm.Stand.acN).before a0 Z = true) (w3 : (Cond.static Jvm.Stand.acN).before a0 Z = true) (w4 : (Cond.initialized "java/lang/System").before a0 Z = true)
    (A : Av Z h a ty N f) (B : Av Z h b ty M f') (hrk : refKind ty = false) (hfa : ∀ j, j < N → fits ty (f j) = true) (hfb : ∀ j, j < M → fits ty (f' j) = true) (e1 : i1 = Int32.ofNat sp) (e2 : i2 = Int32.ofNat dp) (e3 : i3 = Int32.ofNat nn) (h1 : sp + nn ≤ N) (h2 : dp + nn ≤ M) (ge : n0 ≤ b) (hsz : Ls.size = ml) (hf : 1 ≤ R.frames) (hW : (st.map fun v => v.category).sum = W) (hl : W + (nativeFrameWords "java/lang/System" "arraycopy" 5 + 11) ≤ R.locals) (hq : pc + 3 = q)
    (K : ∀ (h' : Heap), Keep h h' [b] → Av Z h' b ty M (fun j => if dp ≤ j ∧ j < dp + nn then f (sp + (j - dp)) else f' j) → Go p l e R s m args below meth c Ph n0 h' k n q Ls st) : Go p l e R s m args below meth c Ph n0 h k n pc Ls (.int i3 :: .int i2 :: .ref b :: .int i1 :: .ref a :: st) := fun T locs X N' eT => by
  have hN : N < 2 ^ 31 := by obtain ⟨_, _, _, r, _⟩ := A; exact r
  have hM : M < 2 ^ 31 := by obtain ⟨_, _, _, r, _⟩ := B; exact r
  obtain ⟨kA, A1⟩ := A.rng hfa .null
  obtain ⟨kB, B1⟩ := B.rng hfb .null
  have t1 : (Int32.ofNat sp).toNatClampNeg = sp := Int32.toNatClampNeg_ofNat_of_lt (by omega)
  have t2 : (Int32.ofNat dp).toNatClampNeg = dp := Int32.toNatClampNeg_ofNat_of_lt (by omega)
  have t3 : (Int32.ofNat nn).toNatClampNeg = nn := Int32.toNatClampNeg_ofNat_of_lt (by omega)
  have t4 : (Int32.ofNat N).toNatClampNeg = N := Int32.toNatClampNeg_ofNat_of_lt hN
  have t5 : (Int32.ofNat M).toNatClampNeg = M := Int32.toNatClampNeg_ofNat_of_lt hM
  subst e1 e2 e3
  obtain ⟨T', h', L, X', e', N2, Kp, Bv, stp⟩ := cpA X C.1 C.2.2.2.2.1 C.2.2.2.1 w1 w2 w3 w4 eT A1 B1 (Or.inl ⟨rfl, hrk⟩) (nn32 (by omega)) (nn32 (by omega)) (nn32 (by omega)) (by rw [t1, t3, t4]; exact h1) (by rw [t2, t3, t5]; exact h2) rfl (by rw [t2, t3]; simpa using h2) N' ge (g := mkF m pc Ls (.int (Int32.ofNat nn) :: .int (Int32.ofNat dp) :: .ref b :: .int (Int32.ofNat sp) :: .ref a :: st)) rfl (hsz.trans C.2.2.1.symm) rfl (hb C.2.1 d) hf (W := W) (by show 2 * 0 + _ ≤ _; rw [hW]; omega) hl
  have B2 := (Av.of_arv Bv t5).congr (g := fun j => if dp ≤ j ∧ j < dp + nn then f (sp + (j - dp)) else f' j) (fun j hj => by
    rw [t1, t2, t3]
    simp only [List.getD_eq_getElem?_getD]
    by_cases c1 : j < dp
    · rw [if_neg (by omega), List.append_assoc, List.getElem?_append_left (by simp; omega), List.getElem?_take_of_lt c1]
      simp [hj]
    · by_cases c2 : j < dp + nn
      · rw [if_pos ⟨by omega, c2⟩, List.getElem?_append_left (by simp; omega), List.getElem?_append_right (by simp; omega)]
        simp [show min dp M = dp by omega, show j - dp < nn by omega, show sp + (j - dp) < N by omega]
      · rw [if_neg (by omega), List.getElem?_append_right (by simp; omega)]
        simp [show min dp M = dp by omega, show dp + nn + (j - (dp + nn)) = j by omega, hj])
  obtain ⟨s₂, v, S, r⟩ := K h' Kp B2 T' L X' N2 e'
  exact ⟨s₂, v, stp _ (by subst hq; exact S), r⟩
end GoRules
/-! ## The wide walk: literals may be loaded (the tables' interned strings grow); the Stand is over s0 with the tables of the moment -/
section GoWide
variable {p : Program} {l : Launch} {e : Env} {R : Room} {s0 : State} {vm0 : Vm} {m : MethodId} {args : Array Value} {below : List Frame} {meth : Method} {c : Code} {Ph : State → Option Value → Prop} {n0 : Nat} {h : Heap} {k n : Nat} {pc q : Nat} {Ls : Array Slot} {st rest : List Value} {Z : State} {a0 : Array Value} {own nm : String} {code : ByteArray} {ml : Nat} {ret : Option FieldType}
def Sn (s0 : State) (vm0 : Vm) (h : Heap) : Prop := ∃ k0, s0.Since vm0 k0 ∧ k0 ≤ h.size
theorem Sn.mono {h' : Heap} (S : Sn s0 vm0 h) (q : h.size ≤ h'.size) : Sn s0 vm0 h' := by obtain ⟨k0, h1, h2⟩ := S; exact ⟨k0, h1, Nat.le_trans h2 q⟩
theorem IB.warm {vm1 : Vm} {Ts : List String} (I : IB Z vm0 Ts) (hW : (s0.setVm vm0).WarmedH vm1) : IB Z vm1 Ts := by
  obtain ⟨more, e, hm⟩ := I
  exact ⟨more, (hW.interned_eq).trans e, hm⟩
def CtrW (l : Launch) (Z : State) (y : MethodName) (bytes : ByteArray) (maxL : Nat) (rt : Option FieldType) (rm : Room) (as' : Array Value) (hs : Heap) (nf : Nat) (P : Vm → Prop) (Q : Option Value → Vm → Heap → Prop) : Prop :=
  MetFree l y (head1 [Cond.code y bytes maxL rt] rm) (fun a U => a = as' ∧ Z.Warmed39 U.vm ∧ U.heap = hs ∧ P U.vm) (fun _ _ _ _ _ => True) (fun _ U o U' => ∃ v L, o = .returned v ∧ (Q v U'.vm U'.heap ∧ Fr nf L) ∧ ReturnedEndW U o U' L rm.cells rm.slots)
def FinW (s0 : State) (below : List Frame) (rm : Room) (nf : Nat) (Q : Option Value → Vm → Heap → Prop) : State → Option Value → Prop :=
  fun s₂ v => s₂.status = .running ∧ Ended s₂ below (.returned v) ∧ ∃ L, (Q v s₂.vm s₂.heap ∧ Fr nf L) ∧ ReturnedEndW s0 (.returned v) s₂ L rm.cells rm.slots
theorem CtrW.of {l : Launch} {Z : State} {y : MethodName} {bytes : ByteArray} {maxL : Nat} {rt : Option FieldType} {rm : Room} {as' : Array Value} {hs : Heap} {nf : Nat} {P : Vm → Prop} {Q : Option Value → Vm → Heap → Prop} {n1 : Nat} (Ls : Array Slot) (hp : plainFor y = true) (hE : ∀ m, entryFrame m as' maxL = mkF m 0 Ls [])
    (B : ∀ (p : Program) (e : Env) (s0 : State) (vm0 : Vm) (m : MethodId) (below : List Frame) (meth : Method) (c : Code), Cx p (s0.setVm vm0) m meth c Z y.cls y.name bytes maxL rt → s0.heap = hs → P vm0 → Sn s0 vm0 hs → Go p l e rm (s0.setVm vm0) m as' below meth c (FinW s0 below rm nf Q) n1 hs 0 0 0 Ls []) : CtrW l Z y bytes maxL rt rm as' hs nf P Q := by
  refine MetFree.of_bodySF hp hisR ?_
  intro p e s m args below meth c s₁ Bd hml0 hP hK
  obtain ⟨rfl, hZ, hh, hPv⟩ := hP
  have X0 : Stand p l e rm s m _ below meth c s₁ [] 0 0 := Stand.of_body Bd
  have e0 : s₁.heap = hs := by rw [← hh, Bd.state]; rfl
  have S0 : Sn s s.vm hs := ⟨s.heap.size, (State.WarmedH.refl s).since _, by rw [hh]; exact Nat.le_refl _⟩
  obtain ⟨s₂, v, S, r1, r2, L, r3, r4⟩ := B p e s s.vm m below meth c ⟨Bd.exec, Bd.bytes, hml0, findClass_of_methodNamed Bd.named, hZ, (name_of_methodNamed Bd.named Bd.method).1, Bd.returns, Bd.notSynchronized⟩ hh hPv S0 s₁ [] X0 (Fr.nil _) e0
  exact ⟨s₂, _, castTop (hE m) S, r1, r2, v, L, rfl, r3, r4⟩
theorem finW_of {T : State} {locs : List Loc} {rm : Room} {nf : Nat} {Q : Option Value → Vm → Heap → Prop} {v : Option Value} {st' : List Value} (C : Cx p (s0.setVm vm0) m meth c Z own nm code ml ret) (Sw : Sn s0 vm0 h) (X : Stand p l e R (s0.setVm vm0) m args below meth c T locs k n) (N : Fr n0 locs) (eT : T.heap = h) (hv : ret = none → v = none) (hn : nf ≤ n0) (hk : k ≤ rm.cells) (hl : n ≤ rm.slots) (hQ : ∀ vm1, (s0.setVm vm0).WarmedH vm1 → Q v vm1 h)
    (H : ∀ fs, (∀ (f : JFrame) (acts : List Action), f.method = m → f.locked = none → f.entered = [] → (doReturn e (T.setTop f) acts v).1 = T.setFrames fs) → Steps p.tables e below (T.setTop (mkF m pc Ls st')) (T.setFrames fs)) :
    ∃ s₂ v, Steps p.tables e below (T.setTop (mkF m pc Ls st')) s₂ ∧ FinW s0 below rm nf Q s₂ v := by
  obtain ⟨k0, hS, hk0⟩ := Sw
  obtain ⟨fs, hr, hrun, hended, h1, h2, h3, hsame⟩ := X.leaveW (v := v) hS (by rw [eT]; exact hk0) (fun hh => hv (C.2.2.2.2.2.2.1.symm.trans hh)) C.2.2.2.2.2.2.2
  exact ⟨_, v, H fs hr, hrun, hended, locs, ⟨by rw [show (T.setFrames fs).heap = h from eT]; exact hQ _ X.warmed, fun y hy => Nat.le_trans hn (N y hy)⟩, h1, h2, h3, hsame.mono hk hl⟩
theorem g_returnW {rm : Room} {nf : Nat} {Q : Option Value → Vm → Heap → Prop} (C : Cx p (s0.setVm vm0) m meth c Z own nm code ml none) (Sw : Sn s0 vm0 h) (d : decode code pc = .ok (.return_, 1)) (hn : nf ≤ n0) (hk : k ≤ rm.cells) (hl : n ≤ rm.slots) (hQ : ∀ vm1, (s0.setVm vm0).WarmedH vm1 → Q none vm1 h) : Go p l e R (s0.setVm vm0) m args below meth c (FinW s0 below rm nf Q) n0 h k n pc Ls [] :=
  fun T locs X N eT => finW_of C Sw X N eT (fun _ => rfl) hn hk hl hQ fun fs hr => X.returnOut C.1 C.2.2.2.2.2.2.1 (hb C.2.1 d) hr
theorem g_ireturnW {rm : Room} {nf : Nat} {Q : Option Value → Vm → Heap → Prop} {x : Int32} (C : Cx p (s0.setVm vm0) m meth c Z own nm code ml (some .int)) (Sw : Sn s0 vm0 h) (d : decode code pc = .ok (.ireturn, 1)) (hn : nf ≤ n0) (hk : k ≤ rm.cells) (hl : n ≤ rm.slots) (hQ : ∀ vm1, (s0.setVm vm0).WarmedH vm1 → Q (some (.int x)) vm1 h) : Go p l e R (s0.setVm vm0) m args below meth c (FinW s0 below rm nf Q) n0 h k n pc Ls (.int x :: st) :=
  fun T locs X N eT => finW_of C Sw X N eT (fun hh => nomatch hh) hn hk hl hQ fun fs hr => retI X C.1 C.2.2.2.2.2.2.1 (hb C.2.1 d) hr
theorem g_nreturnW {rm : Room} {nf : Nat} {Q : Option Value → Vm → Heap → Prop} {x z : Int32} {t : FieldType} (C : Cx p (s0.setVm vm0) m meth c Z own nm code ml (some t)) (Sw : Sn s0 vm0 h) (d : decode code pc = .ok (.ireturn, 1)) (ht : t = .boolean ∨ t = .byte ∨ t = .char ∨ t = .short) (hz : nar t x = z) (hn : nf ≤ n0) (hk : k ≤ rm.cells) (hl : n ≤ rm.slots) (hQ : ∀ vm1, (s0.setVm vm0).WarmedH vm1 → Q (some (.int z)) vm1 h) : Go p l e R (s0.setVm vm0) m args below meth c (FinW s0 below rm nf Q) n0 h k n pc Ls (.int x :: st) :=
  fun T locs X N eT => finW_of (v := some (.int z)) C Sw X N eT (fun hh => nomatch hh) hn hk hl hQ fun fs hr => retN X C.1 C.2.2.2.2.2.2.1 ht (hb C.2.1 d) (by rw [hz]; exact hr)
theorem g_areturnW {rm : Room} {nf : Nat} {Q : Option Value → Vm → Heap → Prop} {x : Value} {t : FieldType} (C : Cx p (s0.setVm vm0) m meth c Z own nm code ml (some t)) (Sw : Sn s0 vm0 h) (d : decode code pc = .ok (.areturn, 1)) (ht : t.isReference = true) (hx : x.isRef = true) (hn : nf ≤ n0) (hk : k ≤ rm.cells) (hl : n ≤ rm.slots) (hQ : ∀ vm1, (s0.setVm vm0).WarmedH vm1 → Q (some x) vm1 h) : Go p l e R (s0.setVm vm0) m args below meth c (FinW s0 below rm nf Q) n0 h k n pc Ls (x :: st) :=
  fun T locs X N eT => finW_of C Sw X N eT (fun hh => nomatch hh) hn hk hl hQ fun fs hr => retOut X C.1 C.2.2.2.2.2.2.1 (by rcases ref_cases hx with rfl | ⟨a, rfl⟩ <;> cases t <;> first | rfl | cases ht) (Or.inr (Or.inr (Or.inr (Or.inr ⟨rfl, ht, hx⟩)))) (hb C.2.1 d) hr
theorem g_ldcS (C : Cx p (s0.setVm vm0) m meth c Z own nm code ml ret) {index : Nat} {text : String} {Ts : List String} {vs : List Value} {z : Int32} {nn : Nat} (Sw : Sn s0 vm0 h) (d : decode code pc = .ok (.ldc index, 2)) (w : (Cond.stringLink own index text).before a0 Z = true) (wS : ∀ a ∈ Bundle.stringAtoms, a.before a0 Z = true) (hkeep : ∀ (b : Addr) (cl : Cell), Z.heap[b]? = some cl → s0.heap[b]? = some cl) (hn0 : s0.heap.size ≤ n0) (I : IB Z vm0 Ts) (hnot : text ∉ Ts) (hh : Jvm.Lit.constHeld Z own index) (hcw : Jvm.Lit.compactW.before a0 Z = true)
    (ht : (∀ c ∈ text.toList, c.toNat < 256) ∧ text.toList.map (fun c => Value.int (Jvm.Lit.byteI c.toNat.toUInt16)) = vs) (hz : ¬ z < 0) (hzl : z.toNatClampNeg = vs.length) (hn : 4 * text.toList.length ≤ nn) (hbig : nn ≤ 536870912) (hc : k + 2 ≤ R.cells) (hl : n + (nn + 4) ≤ R.slots) (hq : pc + 2 = q)
    (K : ∀ (a : Addr) (vm1 : Vm) (h' : Heap) (b : Addr) (kb : ClassId), Ext h h' → Cx p (s0.setVm vm1) m meth c Z own nm code ml ret → Sn s0 vm1 h' → IB Z vm1 (text :: Ts) → Lit (s0.setVm vm1) own index a → Exa Z h' a "java/lang/String" → Fld Z h' a "java/lang/String" "coder" "B" (.int 0) → Fld Z h' a "java/lang/String" "value" "[B" (.ref b) → Arv Z h' b kb .byte z vs (.int 0) → Go p l e R (s0.setVm vm1) m args below meth c Ph n0 h' (k + 2) (n + (nn + 4)) q Ls (.ref a :: st)) : Go p l e R (s0.setVm vm0) m args below meth c Ph n0 h k n pc Ls st := fun T locs X N eT => by
  obtain ⟨k0, hS, hk0⟩ := Sw
  obtain ⟨a, T', h', k1, b, kb, X', e', E, hS', hk1, hZ', hown', E1, F1, F2, A1, -, -, I', L', stp⟩ := ldcSVL X C.1 C.2.2.2.2.1 C.2.2.2.1 w wS eT hS hk0 (fun y hy => Nat.le_trans hn0 (N y hy)) hkeep I hnot hh hcw ht hz hzl (g := mkF m pc Ls st) rfl (hb C.2.1 d) hn hbig hc hl
  obtain ⟨s₂, v, S, r⟩ := K a T'.vm h' b kb E ⟨C.1, C.2.1, C.2.2.1, hown', hZ', C.2.2.2.2.2⟩ ⟨k1, hS', hk1⟩ I' L' E1 F1 F2 A1 T' locs X' N e'
  exact ⟨s₂, v, stp _ (by subst hq; exact S), r⟩
theorem g_ldcA (C : Cx p (s0.setVm vm0) m meth c Z own nm code ml ret) {index : Nat} {text : String} {a : Addr} (d : decode code pc = .ok (.ldc index, 2)) (w : (Cond.stringLink own index text).before a0 Z = true) (Lt : Lit (s0.setVm vm0) own index a) (hq : pc + 2 = q) (K : Go p l e R (s0.setVm vm0) m args below meth c Ph n0 h k n q Ls (.ref a :: st)) : Go p l e R (s0.setVm vm0) m args below meth c Ph n0 h k n pc Ls st := fun T locs X N eT => by
  obtain ⟨s₂, v, S, r⟩ := K T locs X N eT
  exact ⟨s₂, v, ldcAgain X C.1 C.2.2.2.2.1 C.2.2.2.1 w Lt (g := mkF m pc Ls st) rfl (hb C.2.1 d) _ (by subst hq; exact S), r⟩
theorem g_ldcN (C : Cx p (s0.setVm vm0) m meth c Z own nm code ml ret) {index : Nat} {text : String} {nn : Nat} (Sw : Sn s0 vm0 h) (d : decode code pc = .ok (.ldc index, 2)) (w : (Cond.stringLink own index text).before a0 Z = true) (wS : ∀ a ∈ Bundle.stringAtoms, a.before a0 Z = true) (hn : 4 * text.toList.length ≤ nn) (hbig : nn ≤ 536870912) (hc : k + 2 ≤ R.cells) (hl : n + (nn + 4) ≤ R.slots) (hq : pc + 2 = q)
    (K : ∀ (a : Addr) (vm1 : Vm) (h' : Heap), Ext h h' → Cx p (s0.setVm vm1) m meth c Z own nm code ml ret → Sn s0 vm1 h' → Go p l e R (s0.setVm vm1) m args below meth c Ph n0 h' (k + 2) (n + (nn + 4)) q Ls (.ref a :: st)) : Go p l e R (s0.setVm vm0) m args below meth c Ph n0 h k n pc Ls st := fun T locs X N eT => by
  obtain ⟨k0, hS, hk0⟩ := Sw
  obtain ⟨a, T', h', k1, X', e', E, hS', hk1, hZ', hown', stp⟩ := ldcS X C.1 C.2.2.2.2.1 C.2.2.2.1 w wS eT hS hk0 (g := mkF m pc Ls st) rfl (hb C.2.1 d) hn hbig hc hl
  obtain ⟨s₂, v, S, r⟩ := K a T'.vm h' E ⟨C.1, C.2.1, C.2.2.1, hown', hZ', C.2.2.2.2.2⟩ ⟨k1, hS', hk1⟩ T' locs X' N e'
  exact ⟨s₂, v, stp _ (by subst hq; exact S), r⟩
theorem backOfW {s : State} {y : MethodName} {bytes : ByteArray} {maxL : Nat} {rt : Option FieldType} {rm : Room} {len W : Nat} {as' : Array Value} {P : Vm → Prop} {Q : Option Value → Vm → Heap → Prop} {nf : Nat}
    (hM : CtrW l Z y bytes maxL rt rm as' h nf P Q) (hZ : Z.Warmed39 s.vm) (wc : (Cond.code y bytes maxL rt).before a0 Z = true) (wz : (Cond.initialized y.cls).before a0 Z = true) (hf : rm.frames + 1 ≤ R.frames) (hl : W + (maxL + 11) + rm.locals ≤ R.locals) :
    BackS l R p e below s args y len W (fun A a => a = as' ∧ A.U.heap = h ∧ P A.U.vm ∧ A.cells + rm.cells ≤ R.cells ∧ A.slots + rm.slots ≤ R.slots)
      (fun A _ v B => ∃ L, (Q v B.U.vm B.U.heap ∧ Fr nf L) ∧ B.locs = A.locs ++ L ∧ B.cells = A.cells + rm.cells ∧ B.slots = A.slots + rm.slots) :=
  BackS.of_freeW (bytes := bytes) (maxL := maxL) (ret := rt) (E := fun _ _ o t L k n => k = rm.cells ∧ n = rm.slots ∧ ∃ v, o = .returned v ∧ (Q v t.vm t.heap ∧ Fr nf L)) hM hf hl
    (fun m meth c A a Y hp => have hU : Z.Warmed39 A.U.vm := wtrans hZ Y.warmed
      ⟨by show (Cond.and _ .tt).before a A.U = true; rw [Cond.before_and, mv hU wc]; rfl, mv hU wc, mv hU wz, hp.2.2.2.1, hp.2.2.2.2⟩)
    (fun m meth c A a g mk Y hp => ⟨hp.1, wtrans hZ Y.warmed, hp.2.1, hp.2.2.1⟩) (fun _ _ _ _ _ _ _ _ _ => trivial)
    (fun _ _ _ _ ⟨v, L, h1, h2, h3⟩ => ⟨L, _, _, h3, rfl, rfl, v, h1, h2⟩)
    (fun m meth c A a g mk v t L k n Y hp _ _ ⟨e1, e2, v', e3, e4⟩ => by cases e3; subst e1 e2; exact ⟨L, e4, rfl, rfl, rfl⟩)
theorem g_callSW (C : Cx p (s0.setVm vm0) m meth c Z own nm code ml ret) {y : MethodName} {bytes : ByteArray} {maxL : Nat} {rt : Option FieldType} {rm : Room} {P : Vm → Prop} {Q : Option Value → Vm → Heap → Prop} {index W : Nat} {argsL : List Value} (Sw : Sn s0 vm0 h) (d : decode code pc = .ok (.invokestatic index, 3)) (w1 : (Cond.methodLink own index y).before a0 Z = true) (w2 : (Cond.static y).before a0 Z = true) (w3 : (Cond.initialized y.cls).before a0 Z = true) (w4 : (Cond.code y bytes maxL rt).before a0 Z = true) (hy : y.cls ≠ "java/lang/invoke/MethodHandle" ∧ y.cls ≠ "java/lang/invoke/VarHandle")
    (M : CtrW l Z y bytes maxL rt rm argsL.toArray h n0 P Q) (hf : rm.frames + 1 ≤ R.frames) (hl : W + (maxL + 11) + rm.locals ≤ R.locals) (hc : k + rm.cells ≤ R.cells) (hs : n + rm.slots ≤ R.slots) (hsz : Ls.size = ml) (hlen : ∀ sig, parseMethodDescriptor y.desc = some sig → argsL.length = sig.parameters.length) (hst : st = argsL.reverse ++ rest) (hW : (rest.map fun v => v.category).sum = W) (hq : pc + 3 = q)
    (hP : ∀ vm1, (s0.setVm vm0).WarmedH vm1 → P vm1) (K : ∀ v vm1 h', Q v vm1 h' → Cx p (s0.setVm vm1) m meth c Z own nm code ml ret → Sn s0 vm1 h' → (s0.setVm vm0).Warmed39 vm1 → ∃ st', st' = v.toList ++ rest ∧ Go p l e R (s0.setVm vm1) m args below meth c Ph n0 h' (k + rm.cells) (n + rm.slots) q Ls st') : Go p l e R (s0.setVm vm0) m args below meth c Ph n0 h k n pc Ls st := fun T locs X N eT => by
  have hZ := C.2.2.2.2.1
  obtain ⟨v, vm1, ⟨T', L', k', n'⟩, -, X', hS1, hle, ⟨L, ⟨hQ, NL⟩, l1, l2, l3⟩, stp⟩ := callSS X C.1 (y := y) C.2.2.2.1 (mvT hZ w1) (mvT hZ w2) (mvT hZ w3) (mvT hZ w4) hy (backOfW (W := W) M hZ w4 w3 hf hl) (g := mkF m pc Ls st) rfl (hsz.trans C.2.2.1.symm) (argsL := argsL) (rest := rest) hlen hst (by show 2 * 0 + _ ≤ _; rw [hW]; omega) (hb C.2.1 d) (fun vm1 hW1 => ⟨rfl, eT, hP vm1 hW1, hc, hs⟩)
  dsimp only [Pt.U, Pt.locs, Pt.cells, Pt.slots] at X' hS1 hle l1 l2 l3 stp
  subst l1 l2 l3
  obtain ⟨k0, hS, hk0⟩ := Sw
  have hZ1 : Z.Warmed39 T'.vm := State.Warmed39.trans (t := s0.setVm vm0) hZ hS1.1
  obtain ⟨st', hst', K'⟩ := K v _ _ hQ ⟨C.1, C.2.1, C.2.2.1, by rw [show (s0.setVm T'.vm).vm = T'.vm from rfl, hS1.1.alike.findClass]; exact C.2.2.2.1, hZ1, C.2.2.2.2.2⟩ ⟨_, foldS (T := T) hS (by rw [eT]; exact hk0) hS1 hle, Nat.le_refl _⟩ hS1.1
  obtain ⟨s₂, v', S, r⟩ := K' _ _ X' (N.app NL) rfl
  exact ⟨s₂, v', stp.trans (by subst hq hst'; exact S), r⟩
theorem g_callIW (C : Cx p (s0.setVm vm0) m meth c Z own nm code ml ret) {y : MethodName} {bytes : ByteArray} {maxL : Nat} {rm : Room} {P : Vm → Prop} {Q : Option Value → Vm → Heap → Prop} {index W : Nat} {argsL : List Value} {a : Addr} (Sw : Sn s0 vm0 h) (d : decode code pc = .ok (.invokespecial index, 3)) (hy1 : y.name = "<init>") (w1 : (Cond.methodLink own index y).before a0 Z = true) (w2 : (Cond.instanceMethod y).before a0 Z = true) (w3 : (Cond.initialized y.cls).before a0 Z = true) (w4 : (Cond.code y bytes maxL none).before a0 Z = true) (hy : y.cls ≠ "java/lang/invoke/MethodHandle" ∧ y.cls ≠ "java/lang/invoke/VarHandle")
    (M : CtrW l Z y bytes maxL none rm (.ref a :: argsL).toArray h n0 P Q) (hf : rm.frames + 1 ≤ R.frames) (hl : W + (maxL + 11) + rm.locals ≤ R.locals) (hc : k + rm.cells ≤ R.cells) (hs : n + rm.slots ≤ R.slots) (hsz : Ls.size = ml) (hlen : ∀ sig, parseMethodDescriptor y.desc = some sig → argsL.length = sig.parameters.length) (hst : st = argsL.reverse ++ .ref a :: rest) (hW : (rest.map fun v => v.category).sum = W) (hq : pc + 3 = q)
    (hP : ∀ vm1, (s0.setVm vm0).WarmedH vm1 → P vm1) (K : ∀ v vm1 h', Q v vm1 h' → Cx p (s0.setVm vm1) m meth c Z own nm code ml ret → Sn s0 vm1 h' → (s0.setVm vm0).Warmed39 vm1 → ∃ st', st' = v.toList ++ rest ∧ Go p l e R (s0.setVm vm1) m args below meth c Ph n0 h' (k + rm.cells) (n + rm.slots) q Ls st') : Go p l e R (s0.setVm vm0) m args below meth c Ph n0 h k n pc Ls st := fun T locs X N eT => by
  have hZ := C.2.2.2.2.1
  obtain ⟨v, vm1, ⟨T', L', k', n'⟩, -, X', hS1, hle, ⟨L, ⟨hQ, NL⟩, l1, l2, l3⟩, stp⟩ := X.specialBackS C.1 (y := y) hy1 C.2.2.2.1 (mvT hZ w1) (mvT hZ w2) (mvT hZ w4) hy (backOfW (W := W) M hZ w4 w3 hf hl) (g := mkF m pc Ls st) rfl (hsz.trans C.2.2.1.symm) (Steps.refl _) (a := a) (argsL := argsL) (rest := rest) hlen hst (by show 2 * 0 + _ ≤ _; rw [hW]; omega) (hb C.2.1 d) (fun vm1 hW1 => ⟨rfl, eT, hP vm1 hW1, hc, hs⟩)
  dsimp only [Pt.U, Pt.locs, Pt.cells, Pt.slots] at X' hS1 hle l1 l2 l3 stp
  subst l1 l2 l3
  obtain ⟨k0, hS, hk0⟩ := Sw
  have hZ1 : Z.Warmed39 T'.vm := State.Warmed39.trans (t := s0.setVm vm0) hZ hS1.1
  obtain ⟨st', hst', K'⟩ := K v _ _ hQ ⟨C.1, C.2.1, C.2.2.1, by rw [show (s0.setVm T'.vm).vm = T'.vm from rfl, hS1.1.alike.findClass]; exact C.2.2.2.1, hZ1, C.2.2.2.2.2⟩ ⟨_, foldS (T := T) hS (by rw [eT]; exact hk0) hS1 hle, Nat.le_refl _⟩ hS1.1
  obtain ⟨s₂, v', S, r⟩ := K' _ _ X' (N.app NL) rfl
  exact ⟨s₂, v', stp.trans (by subst hq hst'; exact S), r⟩
theorem g_callVW (C : Cx p (s0.setVm vm0) m meth c Z own nm code ml ret) {y : MethodName} {bytes : ByteArray} {maxL : Nat} {rt : Option FieldType} {rm : Room} {P : Vm → Prop} {Q : Option Value → Vm → Heap → Prop} {index W : Nat} {argsL : List Value} {y0 : MethodName} {Cl : String} {a : Addr} (Sw : Sn s0 vm0 h) (d : decode code pc = .ok (.invokevirtual index, 3)) (w1 : (Cond.methodLink own index y0).before a0 Z = true) (w2 : (Cond.declares y0).before a0 Z = true) (w5 : (Cond.selects Cl y0 y).before a0 Z = true) (w6 : (Cond.instanceMethod y).before a0 Z = true) (w3 : (Cond.initialized y.cls).before a0 Z = true) (w4 : (Cond.code y bytes maxL rt).before a0 Z = true) (hy : y0.cls ≠ "java/lang/invoke/MethodHandle" ∧ y0.cls ≠ "java/lang/invoke/VarHandle") (hnf : NotFace (s0.setVm vm0) y0)
    (E : Exa Z h a Cl) (M : CtrW l Z y bytes maxL rt rm (.ref a :: argsL).toArray h n0 P Q) (hf : rm.frames + 1 ≤ R.frames) (hl : W + (maxL + 11) + rm.locals ≤ R.locals) (hc : k + rm.cells ≤ R.cells) (hs : n + rm.slots ≤ R.slots) (hsz : Ls.size = ml) (hlen : ∀ sig, parseMethodDescriptor y0.desc = some sig → argsL.length = sig.parameters.length) (hst : st = argsL.reverse ++ .ref a :: rest) (hW : (rest.map fun v => v.category).sum = W) (hq : pc + 3 = q)
    (hP : ∀ vm1, (s0.setVm vm0).WarmedH vm1 → P vm1) (K : ∀ v vm1 h', Q v vm1 h' → Cx p (s0.setVm vm1) m meth c Z own nm code ml ret → Sn s0 vm1 h' → (s0.setVm vm0).Warmed39 vm1 → ∃ st', st' = v.toList ++ rest ∧ Go p l e R (s0.setVm vm1) m args below meth c Ph n0 h' (k + rm.cells) (n + rm.slots) q Ls st') : Go p l e R (s0.setVm vm0) m args below meth c Ph n0 h k n pc Ls st := fun T locs X N eT => by
  have hZ := C.2.2.2.2.1
  obtain ⟨cq, kq, qa, qb, qc⟩ := isOf hZ eT E
  obtain ⟨v, vm1, ⟨T', L', k', n'⟩, -, X', hS1, hle, ⟨L, ⟨hQ, NL⟩, l1, l2, l3⟩, stp⟩ := X.virtualBackS C.1 (y := y0) (z := y) C.2.2.2.1 (mvT hZ w1) (mvT hZ w2) hnf (mvT hZ w5) (mvT hZ w6) hy (backOfW (W := W) M hZ w4 w3 hf hl) qa qc (g := mkF m pc Ls st) rfl (hsz.trans C.2.2.1.symm) (Steps.refl _) (argsL := argsL) (rest := rest) hlen hst (by show 2 * 0 + _ ≤ _; rw [hW]; omega) (hb C.2.1 d) (fun vm1 hW1 => ⟨rfl, eT, hP vm1 hW1, hc, hs⟩)
  dsimp only [Pt.U, Pt.locs, Pt.cells, Pt.slots] at X' hS1 hle l1 l2 l3 stp
  subst l1 l2 l3
  obtain ⟨k0, hS, hk0⟩ := Sw
  have hZ1 : Z.Warmed39 T'.vm := State.Warmed39.trans (t := s0.setVm vm0) hZ hS1.1
  obtain ⟨st', hst', K'⟩ := K v _ _ hQ ⟨C.1, C.2.1, C.2.2.1, by rw [show (s0.setVm T'.vm).vm = T'.vm from rfl, hS1.1.alike.findClass]; exact C.2.2.2.1, hZ1, C.2.2.2.2.2⟩ ⟨_, foldS (T := T) hS (by rw [eT]; exact hk0) hS1 hle, Nat.le_refl _⟩ hS1.1
  obtain ⟨s₂, v', S, r⟩ := K' _ _ X' (N.app NL) rfl
  exact ⟨s₂, v', stp.trans (by subst hq hst'; exact S), r⟩
theorem CHv.warm39 {EL : List (String × Nat)} {vm1 : Vm} (hZ : Z.Warmed39 vm0) (hE : EW Z a0 EL) (H : CHv Z EL vm0 h) (hW : (s0.setVm vm0).WarmedH vm1) : CHr Z EL vm0 h vm1 h := by
  have q : (Wst Z vm0 h).WarmedH vm1 := hW
  have r := CHv.later (vm := vm0) (vm1 := vm1) hZ q.wide hE (Ext.rfl' h) (Or.inl hW.interned_eq) H
  exact ⟨r.1, Nat.le_refl _, r.2⟩
theorem g_ldcX (C : Cx p (s0.setVm vm0) m meth c Z own nm code ml ret) {index : Nat} {text : String} {EL : List (String × Nat)} {vs : List Value} {z : Int32} {nn : Nat} (Sw : Sn s0 vm0 h) (d : decode code pc = .ok (.ldc index, 2)) (w : (Cond.stringLink own index text).before a0 Z = true) (wS : ∀ a ∈ Bundle.stringAtoms, a.before a0 Z = true) (hEL : EW Z a0 EL) (hmem : (own, index) ∈ EL) (H : CHv Z EL vm0 h)
    (ht : (∀ c ∈ text.toList, c.toNat < 256) ∧ text.toList.map (fun c => Value.int (Jvm.Lit.byteI c.toNat.toUInt16)) = vs) (hz : ¬ z < 0) (hzl : z.toNatClampNeg = vs.length) (hn : 4 * text.toList.length ≤ nn) (hbig : nn ≤ 536870912) (hc : k + 2 ≤ R.cells) (hl : n + (nn + 4) ≤ R.slots) (hq : pc + 2 = q)
    (K : ∀ (a : Addr) (vm1 : Vm) (h' : Heap) (b : Addr) (kb : ClassId), Ext h h' → Cx p (s0.setVm vm1) m meth c Z own nm code ml ret → Sn s0 vm1 h' → CHr Z EL vm0 h vm1 h' → Exa Z h' a "java/lang/String" → Fld Z h' a "java/lang/String" "coder" "B" (.int 0) → Fld Z h' a "java/lang/String" "value" "[B" (.ref b) → Arv Z h' b kb .byte z vs (.int 0) → Exa Z h' b "[B" → Go p l e R (s0.setVm vm1) m args below meth c Ph n0 h' (k + 2) (n + (nn + 4)) q Ls (.ref a :: st)) : Go p l e R (s0.setVm vm0) m args below meth c Ph n0 h k n pc Ls st := fun T locs X N eT => by
  obtain ⟨k0, hS, hk0⟩ := Sw
  obtain ⟨a, T', h', k1, b, kb, X', e', E, hS', hk1, hZ', hown', E1, F1, F2, A1, -, -, hC, L', -, stp⟩ := ldcCH X C.1 C.2.2.2.2.1 C.2.2.2.1 w wS eT hS hk0 hEL hmem H ht hz hzl (g := mkF m pc Ls st) rfl (hb C.2.1 d) hn hbig hc hl
  have hW : Z.Warmed39 T'.vm := hZ'
  have hal : Z.vm.Alike T'.vm := hW.alike
  have EB : Exa Z h' b "[B" := by
    have hf : (Wst Z T'.vm h').vm.findClass own = some m.cls := hown'
    obtain ⟨k', cf, i, units, g1, g2, g3, g4, -⟩ := Cond.stringLink_spec (args := a0) hf (mvS (s := { Z with heap := h' }) hW w)
    have g1' : T'.vm.classes[m.cls]? = some k' := g1
    have hf' : T'.vm.findClass own = some m.cls := hown'
    have hr : k'.resolved[index]? = some (some (.string a)) := by
      have q : (s0.setVm T'.vm).resolvedAt? own index = some (.string a) := L'
      have q2 : (k'.resolved[index]?).join = some (.string a) := by simpa [State.resolvedAt?, hf', g1'] using q
      cases e1 : k'.resolved[index]? with
      | none => rw [e1] at q2; cases q2
      | some o => rw [e1] at q2; rw [show o = some (.string a) from q2]
    obtain ⟨u, cS, hua, ⟨⟨s1, -, -, ⟨cv, kv, iv, s4, -⟩, -, -, -, s8, -, s10, s11, -⟩, -⟩, -, hB, -⟩ := hC.1 _ hmem units a ⟨m.cls, k', cf, i, hf', g1', g2, g3, g4, Or.inl hr⟩
    subst hua
    obtain ⟨kv', z4⟩ := ff_back (U := Wst Z T'.vm h') hal s4
    obtain ⟨cell, cf2, k2, i2, f2, t1, t2, -, -, -, -, t7⟩ := F2
    have e1 : cell = u.sC := Option.some.inj (t1.symm.trans s1)
    have e2 := Option.some.inj (t2.symm.trans z4)
    have e3 : f2 = u.fSV := by simpa using congrArg (fun x => x.2.2.2) e2
    rw [e1, e3] at t7
    have e4 : b = u.sd := Value.ref.inj (Option.some.inj (t7.symm.trans s8))
    subst e4
    have hBZ : Z.vm.findClass "[B" = some u.SA.cls := by rw [← hal.findClass]; exact hB
    obtain ⟨kz, hkz, -⟩ := Vm.findClass_spec hBZ
    obtain ⟨kz', hkz', ekz⟩ := hal.2.2 _ _ hkz
    obtain ⟨hst, k9, hk9, comp, hkind⟩ := s11
    have e9 : k9 = kz' := Option.some.inj (hk9.symm.trans hkz')
    refine ⟨u.SA, kz, s10, hBZ, hkz, ?_, fun ho => ?_⟩
    · cases hv : u.SA.vm <;> first | rfl | exact absurd hv (hst _)
    · rw [e9, ekz] at hkind
      rw [show ({ kz with resolved := kz'.resolved, nestHost := kz'.nestHost, nestHostError := kz'.nestHostError } : Class).kind = kz.kind from rfl] at hkind
      rw [ho] at hkind; cases hkind
  obtain ⟨s₂, v, S, r⟩ := K a T'.vm h' b kb E ⟨C.1, C.2.1, C.2.2.1, hown', hZ', C.2.2.2.2.2⟩ ⟨k1, hS', hk1⟩ hC E1 F1 F2 A1 EB T' locs X' N e'
  exact ⟨s₂, v, stp _ (by subst hq; exact S), r⟩
end GoWide
end Jvm.Pilot.@@N@@

namespace Jvm.Pilot.@@N@@
open Jvm Jvm.ClassFile Sem Op Lib Jvm.Free Jvm.Stand Jvm.LawKit Jvm.RoadKit Bundle Jvm.Pilot.@@N@@.Jvm.D
theorem wd0 {Z : State} {a0 : Array Value} (hw : ∀ d ∈ tables_1, d.before a0 Z = true) : (Jvm.Cond.methodLink "com/example/recordweave/recordweave/store/KeyIndexFileOfPinLaw" (18 : Nat) ({ cls := "com/example/recordweave/recordweave/store/KeyIndexFileOfPinLaw", name := "key", desc := "(I)Ljava/lang/String;" } : Jvm.MethodName)).before a0 Z = true := hw _ (List.mem_of_getElem? (i := 0) rfl)
theorem wd1 {Z : State} {a0 : Array Value} (hw : ∀ d ∈ tables_1, d.before a0 Z = true) : (Jvm.Cond.static ({ cls := "com/example/recordweave/recordweave/store/KeyIndexFileOfPinLaw", name := "key", desc := "(I)Ljava/lang/String;" } : Jvm.MethodName)).before a0 Z = true := hw _ (List.mem_of_getElem? (i := 1) rfl)
theorem wd2 {Z : State} {a0 : Array Value} (hw : ∀ d ∈ tables_1, d.before a0 Z = true) : (Jvm.Cond.initialized "com/example/recordweave/recordweave/store/KeyIndexFileOfPinLaw").before a0 Z = true := hw _ (List.mem_of_getElem? (i := 2) rfl)
theorem wd3 {Z : State} {a0 : Array Value} (hw : ∀ d ∈ tables_1, d.before a0 Z = true) : (Jvm.Cond.code ({ cls := "com/example/recordweave/recordweave/store/KeyIndexFileOfPinLaw", name := "key", desc := "(I)Ljava/lang/String;" } : Jvm.MethodName) method_2_code (5 : Nat) (Option.some (Jvm.ClassFile.FieldType.object "java/lang/String"))).before a0 Z = true := hw _ (List.mem_of_getElem? (i := 3) rfl)
theorem wd4 {Z : State} {a0 : Array Value} (hw : ∀ d ∈ tables_1, d.before a0 Z = true) : (Jvm.Cond.stringLink "com/example/recordweave/recordweave/store/KeyIndexFileOfPinLaw" (7 : Nat) "").before a0 Z = true := hw _ (List.mem_of_getElem? (i := 4) rfl)
theorem wd5 {Z : State} {a0 : Array Value} (hw : ∀ d ∈ tables_1, d.before a0 Z = true) : (Jvm.Cond.initialized "java/lang/String").before a0 Z = true := hw _ (List.mem_of_getElem? (i := 5) rfl)
theorem wd6 {Z : State} {a0 : Array Value} (hw : ∀ d ∈ tables_1, d.before a0 Z = true) : (Jvm.Cond.instantiable "java/lang/String" (4 : Nat)).before a0 Z = true := hw _ (List.mem_of_getElem? (i := 6) rfl)
theorem wd7 {Z : State} {a0 : Array Value} (hw : ∀ d ∈ tables_1, d.before a0 Z = true) : (Jvm.Cond.arrayClass Jvm.ClassFile.FieldType.byte).before a0 Z = true := hw _ (List.mem_of_getElem? (i := 7) rfl)
theorem wd8 {Z : State} {a0 : Array Value} (hw : ∀ d ∈ tables_1, d.before a0 Z = true) : (Jvm.Cond.laysFinal "java/lang/String" "java/lang/String" "value" "[B").before a0 Z = true := hw _ (List.mem_of_getElem? (i := 8) rfl)
theorem wd9 {Z : State} {a0 : Array Value} (hw : ∀ d ∈ tables_1, d.before a0 Z = true) : (Jvm.Cond.laysFinal "java/lang/String" "java/lang/String" "coder" "B").before a0 Z = true := hw _ (List.mem_of_getElem? (i := 9) rfl)
theorem wd12 {Z : State} {a0 : Array Value} (hw : ∀ d ∈ tables_1, d.before a0 Z = true) : (Jvm.Cond.constant "com/example/recordweave/recordweave/store/KeyIndexFileOfPinLaw" (24 : Nat) (2147483647 : Int32)).before a0 Z = true := hw _ (List.mem_of_getElem? (i := 12) rfl)
theorem wd13 {Z : State} {a0 : Array Value} (hw : ∀ d ∈ tables_1, d.before a0 Z = true) : (Jvm.Cond.classLink "com/example/recordweave/recordweave/store/KeyIndexFileOfPinLaw" (25 : Nat) "java/util/ArrayList").before a0 Z = true := hw _ (List.mem_of_getElem? (i := 13) rfl)
theorem wd14 {Z : State} {a0 : Array Value} (hw : ∀ d ∈ tables_1, d.before a0 Z = true) : (Jvm.Cond.instantiable "java/util/ArrayList" (3 : Nat)).before a0 Z = true := hw _ (List.mem_of_getElem? (i := 14) rfl)
theorem wd15 {Z : State} {a0 : Array Value} (hw : ∀ d ∈ tables_1, d.before a0 Z = true) : (Jvm.Cond.initialized "java/util/ArrayList").before a0 Z = true := hw _ (List.mem_of_getElem? (i := 15) rfl)
theorem wd16 {Z : State} {a0 : Array Value} (hw : ∀ d ∈ tables_1, d.before a0 Z = true) : (Jvm.Cond.methodLink "com/example/recordweave/recordweave/store/KeyIndexFileOfPinLaw" (27 : Nat) ({ cls := "java/util/ArrayList", name := "<init>", desc := "()V" } : Jvm.MethodName)).before a0 Z = true := hw _ (List.mem_of_getElem? (i := 16) rfl)
theorem wd17 {Z : State} {a0 : Array Value} (hw : ∀ d ∈ tables_1, d.before a0 Z = true) : (Jvm.Cond.instanceMethod ({ cls := "java/util/ArrayList", name := "<init>", desc := "()V" } : Jvm.MethodName)).before a0 Z = true := hw _ (List.mem_of_getElem? (i := 17) rfl)
theorem wd18 {Z : State} {a0 : Array Value} (hw : ∀ d ∈ tables_1, d.before a0 Z = true) : (Jvm.Cond.code ({ cls := "java/util/ArrayList", name := "<init>", desc := "()V" } : Jvm.MethodName) jdk_38_method_2_code (1 : Nat) (Option.none : Option Jvm.ClassFile.FieldType)).before a0 Z = true := hw _ (List.mem_of_getElem? (i := 18) rfl)
theorem wd19 {Z : State} {a0 : Array Value} (hw : ∀ d ∈ tables_1, d.before a0 Z = true) : (Jvm.Cond.methodLink "java/util/ArrayList" (1 : Nat) ({ cls := "java/util/AbstractList", name := "<init>", desc := "()V" } : Jvm.MethodName)).before a0 Z = true := hw _ (List.mem_of_getElem? (i := 19) rfl)
theorem wd20 {Z : State} {a0 : Array Value} (hw : ∀ d ∈ tables_1, d.before a0 Z = true) : (Jvm.Cond.instanceMethod ({ cls := "java/util/AbstractList", name := "<init>", desc := "()V" } : Jvm.MethodName)).before a0 Z = true := hw _ (List.mem_of_getElem? (i := 20) rfl)
theorem wd23 {Z : State} {a0 : Array Value} (hw : ∀ d ∈ tables_1, d.before a0 Z = true) : (Jvm.Cond.initialized "java/util/AbstractList").before a0 Z = true := hw _ (List.mem_of_getElem? (i := 23) rfl)
theorem wd24 {Z : State} {a0 : Array Value} (hw : ∀ d ∈ tables_1, d.before a0 Z = true) : (Jvm.Cond.code ({ cls := "java/util/AbstractList", name := "<init>", desc := "()V" } : Jvm.MethodName) jdk_39_method_1_code (1 : Nat) (Option.none : Option Jvm.ClassFile.FieldType)).before a0 Z = true := hw _ (List.mem_of_getElem? (i := 24) rfl)
theorem wd25 {Z : State} {a0 : Array Value} (hw : ∀ d ∈ tables_1, d.before a0 Z = true) : (Jvm.Cond.methodLink "java/util/AbstractList" (1 : Nat) ({ cls := "java/util/AbstractCollection", name := "<init>", desc := "()V" } : Jvm.MethodName)).before a0 Z = true := hw _ (List.mem_of_getElem? (i := 25) rfl)
theorem wd26 {Z : State} {a0 : Array Value} (hw : ∀ d ∈ tables_1, d.before a0 Z = true) : (Jvm.Cond.instanceMethod ({ cls := "java/util/AbstractCollection", name := "<init>", desc := "()V" } : Jvm.MethodName)).before a0 Z = true := hw _ (List.mem_of_getElem? (i := 26) rfl)
theorem wd29 {Z : State} {a0 : Array Value} (hw : ∀ d ∈ tables_1, d.before a0 Z = true) : (Jvm.Cond.initialized "java/util/AbstractCollection").before a0 Z = true := hw _ (List.mem_of_getElem? (i := 29) rfl)
theorem wd30 {Z : State} {a0 : Array Value} (hw : ∀ d ∈ tables_1, d.before a0 Z = true) : (Jvm.Cond.code ({ cls := "java/util/AbstractCollection", name := "<init>", desc := "()V" } : Jvm.MethodName) jdk_22_method_1_code (1 : Nat) (Option.none : Option Jvm.ClassFile.FieldType)).before a0 Z = true := hw _ (List.mem_of_getElem? (i := 30) rfl)
theorem wd31 {Z : State} {a0 : Array Value} (hw : ∀ d ∈ tables_1, d.before a0 Z = true) : (Jvm.Cond.methodLink "java/util/AbstractCollection" (1 : Nat) ({ cls := "java/lang/Object", name := "<init>", desc := "()V" } : Jvm.MethodName)).before a0 Z = true := hw _ (List.mem_of_getElem? (i := 31) rfl)
theorem wd32 {Z : State} {a0 : Array Value} (hw : ∀ d ∈ tables_1, d.before a0 Z = true) : (Jvm.Cond.instanceMethod ({ cls := "java/lang/Object", name := "<init>", desc := "()V" } : Jvm.MethodName)).before a0 Z = true := hw _ (List.mem_of_getElem? (i := 32) rfl)
theorem wd33 {Z : State} {a0 : Array Value} (hw : ∀ d ∈ tables_1, d.before a0 Z = true) : (Jvm.Cond.code ({ cls := "java/lang/Object", name := "<init>", desc := "()V" } : Jvm.MethodName) object_method_1_code (1 : Nat) (Option.none : Option Jvm.ClassFile.FieldType)).before a0 Z = true := hw _ (List.mem_of_getElem? (i := 33) rfl)
theorem wd34 {Z : State} {a0 : Array Value} (hw : ∀ d ∈ tables_1, d.before a0 Z = true) : (Jvm.Cond.fieldLink "java/util/AbstractList" (7 : Nat) "java/util/AbstractList" "modCount" "I").before a0 Z = true := hw _ (List.mem_of_getElem? (i := 34) rfl)
theorem wd35 {Z : State} {a0 : Array Value} (hw : ∀ d ∈ tables_1, d.before a0 Z = true) : (Jvm.Cond.lays "java/util/ArrayList" "java/util/AbstractList" "modCount" "I").before a0 Z = true := hw _ (List.mem_of_getElem? (i := 35) rfl)
theorem wd36 {Z : State} {a0 : Array Value} (hw : ∀ d ∈ tables_1, d.before a0 Z = true) : (Jvm.Cond.fieldLink "java/util/ArrayList" (39 : Nat) "java/util/ArrayList" "DEFAULTCAPACITY_EMPTY_ELEMENTDATA" "[Ljava/lang/Object;").before a0 Z = true := hw _ (List.mem_of_getElem? (i := 36) rfl)
theorem wd37 {Z : State} {a0 : Array Value} (hw : ∀ d ∈ tables_1, d.before a0 Z = true) : (Jvm.Cond.fieldLink "java/util/ArrayList" (9 : Nat) "java/util/ArrayList" "elementData" "[Ljava/lang/Object;").before a0 Z = true := hw _ (List.mem_of_getElem? (i := 37) rfl)
theorem wd38 {Z : State} {a0 : Array Value} (hw : ∀ d ∈ tables_1, d.before a0 Z = true) : (Jvm.Cond.lays "java/util/ArrayList" "java/util/ArrayList" "elementData" "[Ljava/lang/Object;").before a0 Z = true := hw _ (List.mem_of_getElem? (i := 38) rfl)
theorem wd39 {Z : State} {a0 : Array Value} (hw : ∀ d ∈ tables_1, d.before a0 Z = true) : (Jvm.Cond.methodLink "com/example/recordweave/recordweave/store/KeyIndexFileOfPinLaw" (28 : Nat) ({ cls := "java/util/List", name := "add", desc := "(Ljava/lang/Object;)Z" } : Jvm.MethodName)).before a0 Z = true := hw _ (List.mem_of_getElem? (i := 39) rfl)
theorem wd40 {Z : State} {a0 : Array Value} (hw : ∀ d ∈ tables_1, d.before a0 Z = true) : (Jvm.Cond.declares ({ cls := "java/util/List", name := "add", desc := "(Ljava/lang/Object;)Z" } : Jvm.MethodName)).before a0 Z = true := hw _ (List.mem_of_getElem? (i := 40) rfl)
theorem wd41 {Z : State} {a0 : Array Value} (hw : ∀ d ∈ tables_1, d.before a0 Z = true) : (Jvm.Cond.interfaceMethod "java/util/List" "java/util/List" "add" "(Ljava/lang/Object;)Z").before a0 Z = true := hw _ (List.mem_of_getElem? (i := 41) rfl)
theorem wd42 {Z : State} {a0 : Array Value} (hw : ∀ d ∈ tables_1, d.before a0 Z = true) : (Jvm.Cond.selects "java/util/ArrayList" ({ cls := "java/util/List", name := "add", desc := "(Ljava/lang/Object;)Z" } : Jvm.MethodName) ({ cls := "java/util/ArrayList", name := "add", desc := "(Ljava/lang/Object;)Z" } : Jvm.MethodName)).before a0 Z = true := hw _ (List.mem_of_getElem? (i := 42) rfl)
theorem wd43 {Z : State} {a0 : Array Value} (hw : ∀ d ∈ tables_1, d.before a0 Z = true) : (Jvm.Cond.instanceMethod ({ cls := "java/util/ArrayList", name := "add", desc := "(Ljava/lang/Object;)Z" } : Jvm.MethodName)).before a0 Z = true := hw _ (List.mem_of_getElem? (i := 43) rfl)
theorem wd44 {Z : State} {a0 : Array Value} (hw : ∀ d ∈ tables_1, d.before a0 Z = true) : (Jvm.Cond.publicMethod ({ cls := "java/util/ArrayList", name := "add", desc := "(Ljava/lang/Object;)Z" } : Jvm.MethodName)).before a0 Z = true := hw _ (List.mem_of_getElem? (i := 44) rfl)
theorem wd45 {Z : State} {a0 : Array Value} (hw : ∀ d ∈ tables_1, d.before a0 Z = true) : (Jvm.Cond.unhidden "java/util/ArrayList" "add" "(Ljava/lang/Object;)Z").before a0 Z = true := hw _ (List.mem_of_getElem? (i := 45) rfl)
theorem wd46 {Z : State} {a0 : Array Value} (hw : ∀ d ∈ tables_1, d.before a0 Z = true) : (Jvm.Cond.castable "java/util/ArrayList" "java/util/List").before a0 Z = true := hw _ (List.mem_of_getElem? (i := 46) rfl)
theorem wd47 {Z : State} {a0 : Array Value} (hw : ∀ d ∈ tables_1, d.before a0 Z = true) : (Jvm.Cond.code ({ cls := "java/util/ArrayList", name := "add", desc := "(Ljava/lang/Object;)Z" } : Jvm.MethodName) jdk_38_method_25_code (2 : Nat) (Option.some Jvm.ClassFile.FieldType.boolean)).before a0 Z = true := hw _ (List.mem_of_getElem? (i := 47) rfl)
theorem wd48 {Z : State} {a0 : Array Value} (hw : ∀ d ∈ tables_1, d.before a0 Z = true) : (Jvm.Cond.fieldLink "java/util/ArrayList" (63 : Nat) "java/util/ArrayList" "modCount" "I").before a0 Z = true := hw _ (List.mem_of_getElem? (i := 48) rfl)
theorem wd49 {Z : State} {a0 : Array Value} (hw : ∀ d ∈ tables_1, d.before a0 Z = true) : (Jvm.Cond.sameField "java/util/ArrayList" "java/util/AbstractList" "modCount" "I").before a0 Z = true := hw _ (List.mem_of_getElem? (i := 49) rfl)
theorem wd50 {Z : State} {a0 : Array Value} (hw : ∀ d ∈ tables_1, d.before a0 Z = true) : (Jvm.Cond.fieldLink "java/util/ArrayList" (48 : Nat) "java/util/ArrayList" "size" "I").before a0 Z = true := hw _ (List.mem_of_getElem? (i := 50) rfl)
theorem wd51 {Z : State} {a0 : Array Value} (hw : ∀ d ∈ tables_1, d.before a0 Z = true) : (Jvm.Cond.lays "java/util/ArrayList" "java/util/ArrayList" "size" "I").before a0 Z = true := hw _ (List.mem_of_getElem? (i := 51) rfl)
theorem wd52 {Z : State} {a0 : Array Value} (hw : ∀ d ∈ tables_1, d.before a0 Z = true) : (Jvm.Cond.methodLink "java/util/ArrayList" (131 : Nat) ({ cls := "java/util/ArrayList", name := "add", desc := "(Ljava/lang/Object;[Ljava/lang/Object;I)V" } : Jvm.MethodName)).before a0 Z = true := hw _ (List.mem_of_getElem? (i := 52) rfl)
theorem wd53 {Z : State} {a0 : Array Value} (hw : ∀ d ∈ tables_1, d.before a0 Z = true) : (Jvm.Cond.instanceMethod ({ cls := "java/util/ArrayList", name := "add", desc := "(Ljava/lang/Object;[Ljava/lang/Object;I)V" } : Jvm.MethodName)).before a0 Z = true := hw _ (List.mem_of_getElem? (i := 53) rfl)
theorem wd54 {Z : State} {a0 : Array Value} (hw : ∀ d ∈ tables_1, d.before a0 Z = true) : (Jvm.Cond.privateMethod ({ cls := "java/util/ArrayList", name := "add", desc := "(Ljava/lang/Object;[Ljava/lang/Object;I)V" } : Jvm.MethodName)).before a0 Z = true := hw _ (List.mem_of_getElem? (i := 54) rfl)
theorem wd56 {Z : State} {a0 : Array Value} (hw : ∀ d ∈ tables_1, d.before a0 Z = true) : (Jvm.Cond.code ({ cls := "java/util/ArrayList", name := "add", desc := "(Ljava/lang/Object;[Ljava/lang/Object;I)V" } : Jvm.MethodName) jdk_38_method_24_code (4 : Nat) (Option.none : Option Jvm.ClassFile.FieldType)).before a0 Z = true := hw _ (List.mem_of_getElem? (i := 56) rfl)
theorem wd57 {Z : State} {a0 : Array Value} (hw : ∀ d ∈ tables_1, d.before a0 Z = true) : (Jvm.Cond.methodLink "java/util/ArrayList" (129 : Nat) ({ cls := "java/util/ArrayList", name := "grow", desc := "()[Ljava/lang/Object;" } : Jvm.MethodName)).before a0 Z = true := hw _ (List.mem_of_getElem? (i := 57) rfl)
theorem wd58 {Z : State} {a0 : Array Value} (hw : ∀ d ∈ tables_1, d.before a0 Z = true) : (Jvm.Cond.instanceMethod ({ cls := "java/util/ArrayList", name := "grow", desc := "()[Ljava/lang/Object;" } : Jvm.MethodName)).before a0 Z = true := hw _ (List.mem_of_getElem? (i := 58) rfl)
theorem wd59 {Z : State} {a0 : Array Value} (hw : ∀ d ∈ tables_1, d.before a0 Z = true) : (Jvm.Cond.privateMethod ({ cls := "java/util/ArrayList", name := "grow", desc := "()[Ljava/lang/Object;" } : Jvm.MethodName)).before a0 Z = true := hw _ (List.mem_of_getElem? (i := 59) rfl)
theorem wd61 {Z : State} {a0 : Array Value} (hw : ∀ d ∈ tables_1, d.before a0 Z = true) : (Jvm.Cond.code ({ cls := "java/util/ArrayList", name := "grow", desc := "()[Ljava/lang/Object;" } : Jvm.MethodName) jdk_38_method_7_code (1 : Nat) (Option.some (Jvm.ClassFile.FieldType.array (Jvm.ClassFile.FieldType.object "java/lang/Object")))).before a0 Z = true := hw _ (List.mem_of_getElem? (i := 61) rfl)
theorem wd62 {Z : State} {a0 : Array Value} (hw : ∀ d ∈ tables_1, d.before a0 Z = true) : (Jvm.Cond.methodLink "java/util/ArrayList" (69 : Nat) ({ cls := "java/util/ArrayList", name := "grow", desc := "(I)[Ljava/lang/Object;" } : Jvm.MethodName)).before a0 Z = true := hw _ (List.mem_of_getElem? (i := 62) rfl)
theorem wd63 {Z : State} {a0 : Array Value} (hw : ∀ d ∈ tables_1, d.before a0 Z = true) : (Jvm.Cond.instanceMethod ({ cls := "java/util/ArrayList", name := "grow", desc := "(I)[Ljava/lang/Object;" } : Jvm.MethodName)).before a0 Z = true := hw _ (List.mem_of_getElem? (i := 63) rfl)
theorem wd64 {Z : State} {a0 : Array Value} (hw : ∀ d ∈ tables_1, d.before a0 Z = true) : (Jvm.Cond.privateMethod ({ cls := "java/util/ArrayList", name := "grow", desc := "(I)[Ljava/lang/Object;" } : Jvm.MethodName)).before a0 Z = true := hw _ (List.mem_of_getElem? (i := 64) rfl)
theorem wd66 {Z : State} {a0 : Array Value} (hw : ∀ d ∈ tables_1, d.before a0 Z = true) : (Jvm.Cond.code ({ cls := "java/util/ArrayList", name := "grow", desc := "(I)[Ljava/lang/Object;" } : Jvm.MethodName) jdk_38_method_6_code (4 : Nat) (Option.some (Jvm.ClassFile.FieldType.array (Jvm.ClassFile.FieldType.object "java/lang/Object")))).before a0 Z = true := hw _ (List.mem_of_getElem? (i := 66) rfl)
theorem wd67 {Z : State} {a0 : Array Value} (hw : ∀ d ∈ tables_1, d.before a0 Z = true) : (Jvm.Cond.methodLink "java/util/ArrayList" (79 : Nat) ({ cls := "java/lang/Math", name := "max", desc := "(II)I" } : Jvm.MethodName)).before a0 Z = true := hw _ (List.mem_of_getElem? (i := 67) rfl)
theorem wd68 {Z : State} {a0 : Array Value} (hw : ∀ d ∈ tables_1, d.before a0 Z = true) : (Jvm.Cond.static ({ cls := "java/lang/Math", name := "max", desc := "(II)I" } : Jvm.MethodName)).before a0 Z = true := hw _ (List.mem_of_getElem? (i := 68) rfl)
theorem wd69 {Z : State} {a0 : Array Value} (hw : ∀ d ∈ tables_1, d.before a0 Z = true) : (Jvm.Cond.initialized "java/lang/Math").before a0 Z = true := hw _ (List.mem_of_getElem? (i := 69) rfl)
theorem wd70 {Z : State} {a0 : Array Value} (hw : ∀ d ∈ tables_1, d.before a0 Z = true) : (Jvm.Cond.code ({ cls := "java/lang/Math", name := "max", desc := "(II)I" } : Jvm.MethodName) jdk_29_method_65_code (2 : Nat) (Option.some Jvm.ClassFile.FieldType.int)).before a0 Z = true := hw _ (List.mem_of_getElem? (i := 70) rfl)
theorem wd71 {Z : State} {a0 : Array Value} (hw : ∀ d ∈ tables_1, d.before a0 Z = true) : (Jvm.Cond.classLink "java/util/ArrayList" (7 : Nat) "java/lang/Object").before a0 Z = true := hw _ (List.mem_of_getElem? (i := 71) rfl)
theorem wd72 {Z : State} {a0 : Array Value} (hw : ∀ d ∈ tables_1, d.before a0 Z = true) : (Jvm.Cond.arrayOver (Jvm.ClassFile.FieldType.object "java/lang/Object")).before a0 Z = true := hw _ (List.mem_of_getElem? (i := 72) rfl)
theorem wd73 {Z : State} {a0 : Array Value} (hw : ∀ d ∈ tables_1, d.before a0 Z = true) : (Jvm.Cond.castable "java/lang/String" "java/lang/Object").before a0 Z = true := hw _ (List.mem_of_getElem? (i := 73) rfl)
theorem wd74 {Z : State} {a0 : Array Value} (hw : ∀ d ∈ tables_1, d.before a0 Z = true) : (Jvm.Cond.classLink "com/example/recordweave/recordweave/store/KeyIndexFileOfPinLaw" (34 : Nat) "com/example/recordweave/recordweave/store/KeyIndex").before a0 Z = true := hw _ (List.mem_of_getElem? (i := 74) rfl)
theorem wd75 {Z : State} {a0 : Array Value} (hw : ∀ d ∈ tables_1, d.before a0 Z = true) : (Jvm.Cond.instantiable "com/example/recordweave/recordweave/store/KeyIndex" (6 : Nat)).before a0 Z = true := hw _ (List.mem_of_getElem? (i := 75) rfl)
theorem wd76 {Z : State} {a0 : Array Value} (hw : ∀ d ∈ tables_1, d.before a0 Z = true) : (Jvm.Cond.initialized "com/example/recordweave/recordweave/store/KeyIndex").before a0 Z = true := hw _ (List.mem_of_getElem? (i := 76) rfl)
theorem wd77 {Z : State} {a0 : Array Value} (hw : ∀ d ∈ tables_1, d.before a0 Z = true) : (Jvm.Cond.methodLink "com/example/recordweave/recordweave/store/KeyIndexFileOfPinLaw" (36 : Nat) ({ cls := "com/example/recordweave/recordweave/store/KeyIndex", name := "<init>", desc := "()V" } : Jvm.MethodName)).before a0 Z = true := hw _ (List.mem_of_getElem? (i := 77) rfl)
theorem wd78 {Z : State} {a0 : Array Value} (hw : ∀ d ∈ tables_1, d.before a0 Z = true) : (Jvm.Cond.instanceMethod ({ cls := "com/example/recordweave/recordweave/store/KeyIndex", name := "<init>", desc := "()V" } : Jvm.MethodName)).before a0 Z = true := hw _ (List.mem_of_getElem? (i := 78) rfl)
theorem wd79 {Z : State} {a0 : Array Value} (hw : ∀ d ∈ tables_1, d.before a0 Z = true) : (Jvm.Cond.code ({ cls := "com/example/recordweave/recordweave/store/KeyIndex", name := "<init>", desc := "()V" } : Jvm.MethodName) prog_1_method_1_code (1 : Nat) (Option.none : Option Jvm.ClassFile.FieldType)).before a0 Z = true := hw _ (List.mem_of_getElem? (i := 79) rfl)
theorem wd80 {Z : State} {a0 : Array Value} (hw : ∀ d ∈ tables_1, d.before a0 Z = true) : (Jvm.Cond.methodLink "com/example/recordweave/recordweave/store/KeyIndex" (1 : Nat) ({ cls := "java/lang/Object", name := "<init>", desc := "()V" } : Jvm.MethodName)).before a0 Z = true := hw _ (List.mem_of_getElem? (i := 80) rfl)
theorem wd81 {Z : State} {a0 : Array Value} (hw : ∀ d ∈ tables_1, d.before a0 Z = true) : (Jvm.Cond.classLink "com/example/recordweave/recordweave/store/KeyIndex" (7 : Nat) "java/util/ArrayList").before a0 Z = true := hw _ (List.mem_of_getElem? (i := 81) rfl)
theorem wd82 {Z : State} {a0 : Array Value} (hw : ∀ d ∈ tables_1, d.before a0 Z = true) : (Jvm.Cond.methodLink "com/example/recordweave/recordweave/store/KeyIndex" (9 : Nat) ({ cls := "java/util/ArrayList", name := "<init>", desc := "()V" } : Jvm.MethodName)).before a0 Z = true := hw _ (List.mem_of_getElem? (i := 82) rfl)
theorem wd83 {Z : State} {a0 : Array Value} (hw : ∀ d ∈ tables_1, d.before a0 Z = true) : (Jvm.Cond.fieldLink "com/example/recordweave/recordweave/store/KeyIndex" (10 : Nat) "com/example/recordweave/recordweave/store/KeyIndex" "keysOfFile" "Ljava/util/List;").before a0 Z = true := hw _ (List.mem_of_getElem? (i := 83) rfl)
theorem wd84 {Z : State} {a0 : Array Value} (hw : ∀ d ∈ tables_1, d.before a0 Z = true) : (Jvm.Cond.laysFinal "com/example/recordweave/recordweave/store/KeyIndex" "com/example/recordweave/recordweave/store/KeyIndex" "keysOfFile" "Ljava/util/List;").before a0 Z = true := hw _ (List.mem_of_getElem? (i := 84) rfl)
theorem wd85 {Z : State} {a0 : Array Value} (hw : ∀ d ∈ tables_1, d.before a0 Z = true) : (Jvm.Cond.arrayClass Jvm.ClassFile.FieldType.int).before a0 Z = true := hw _ (List.mem_of_getElem? (i := 85) rfl)
theorem wd86 {Z : State} {a0 : Array Value} (hw : ∀ d ∈ tables_1, d.before a0 Z = true) : (Jvm.Cond.fieldLink "com/example/recordweave/recordweave/store/KeyIndex" (16 : Nat) "com/example/recordweave/recordweave/store/KeyIndex" "files" "[I").before a0 Z = true := hw _ (List.mem_of_getElem? (i := 86) rfl)
theorem wd87 {Z : State} {a0 : Array Value} (hw : ∀ d ∈ tables_1, d.before a0 Z = true) : (Jvm.Cond.lays "com/example/recordweave/recordweave/store/KeyIndex" "com/example/recordweave/recordweave/store/KeyIndex" "files" "[I").before a0 Z = true := hw _ (List.mem_of_getElem? (i := 87) rfl)
theorem wd88 {Z : State} {a0 : Array Value} (hw : ∀ d ∈ tables_1, d.before a0 Z = true) : (Jvm.Cond.fieldLink "com/example/recordweave/recordweave/store/KeyIndex" (20 : Nat) "com/example/recordweave/recordweave/store/KeyIndex" "starts" "[I").before a0 Z = true := hw _ (List.mem_of_getElem? (i := 88) rfl)
theorem wd89 {Z : State} {a0 : Array Value} (hw : ∀ d ∈ tables_1, d.before a0 Z = true) : (Jvm.Cond.lays "com/example/recordweave/recordweave/store/KeyIndex" "com/example/recordweave/recordweave/store/KeyIndex" "starts" "[I").before a0 Z = true := hw _ (List.mem_of_getElem? (i := 89) rfl)
theorem wd90 {Z : State} {a0 : Array Value} (hw : ∀ d ∈ tables_1, d.before a0 Z = true) : (Jvm.Cond.fieldLink "com/example/recordweave/recordweave/store/KeyIndex" (23 : Nat) "com/example/recordweave/recordweave/store/KeyIndex" "ends" "[I").before a0 Z = true := hw _ (List.mem_of_getElem? (i := 90) rfl)
theorem wd91 {Z : State} {a0 : Array Value} (hw : ∀ d ∈ tables_1, d.before a0 Z = true) : (Jvm.Cond.lays "com/example/recordweave/recordweave/store/KeyIndex" "com/example/recordweave/recordweave/store/KeyIndex" "ends" "[I").before a0 Z = true := hw _ (List.mem_of_getElem? (i := 91) rfl)
theorem wd92 {Z : State} {a0 : Array Value} (hw : ∀ d ∈ tables_1, d.before a0 Z = true) : (Jvm.Cond.fieldLink "com/example/recordweave/recordweave/store/KeyIndex" (26 : Nat) "com/example/recordweave/recordweave/store/KeyIndex" "table" "[I").before a0 Z = true := hw _ (List.mem_of_getElem? (i := 92) rfl)
theorem wd93 {Z : State} {a0 : Array Value} (hw : ∀ d ∈ tables_1, d.before a0 Z = true) : (Jvm.Cond.lays "com/example/recordweave/recordweave/store/KeyIndex" "com/example/recordweave/recordweave/store/KeyIndex" "table" "[I").before a0 Z = true := hw _ (List.mem_of_getElem? (i := 93) rfl)
theorem wd94 {Z : State} {a0 : Array Value} (hw : ∀ d ∈ tables_1, d.before a0 Z = true) : (Jvm.Cond.methodLink "com/example/recordweave/recordweave/store/KeyIndexFileOfPinLaw" (43 : Nat) ({ cls := "com/example/recordweave/recordweave/store/KeyIndex", name := "fileOf", desc := "(Ljava/lang/String;)I" } : Jvm.MethodName)).before a0 Z = true := hw _ (List.mem_of_getElem? (i := 94) rfl)
theorem wd95 {Z : State} {a0 : Array Value} (hw : ∀ d ∈ tables_1, d.before a0 Z = true) : (Jvm.Cond.declares ({ cls := "com/example/recordweave/recordweave/store/KeyIndex", name := "fileOf", desc := "(Ljava/lang/String;)I" } : Jvm.MethodName)).before a0 Z = true := hw _ (List.mem_of_getElem? (i := 95) rfl)
theorem wd96 {Z : State} {a0 : Array Value} (hw : ∀ d ∈ tables_1, d.before a0 Z = true) : (Jvm.Cond.instanceMethod ({ cls := "com/example/recordweave/recordweave/store/KeyIndex", name := "fileOf", desc := "(Ljava/lang/String;)I" } : Jvm.MethodName)).before a0 Z = true := hw _ (List.mem_of_getElem? (i := 96) rfl)
theorem wd97 {Z : State} {a0 : Array Value} (hw : ∀ d ∈ tables_1, d.before a0 Z = true) : (Jvm.Cond.selects "com/example/recordweave/recordweave/store/KeyIndex" ({ cls := "com/example/recordweave/recordweave/store/KeyIndex", name := "fileOf", desc := "(Ljava/lang/String;)I" } : Jvm.MethodName) ({ cls := "com/example/recordweave/recordweave/store/KeyIndex", name := "fileOf", desc := "(Ljava/lang/String;)I" } : Jvm.MethodName)).before a0 Z = true := hw _ (List.mem_of_getElem? (i := 97) rfl)
theorem wd98 {Z : State} {a0 : Array Value} (hw : ∀ d ∈ tables_1, d.before a0 Z = true) : (Jvm.Cond.code ({ cls := "com/example/recordweave/recordweave/store/KeyIndex", name := "fileOf", desc := "(Ljava/lang/String;)I" } : Jvm.MethodName) prog_1_method_3_code (4 : Nat) (Option.some Jvm.ClassFile.FieldType.int)).before a0 Z = true := hw _ (List.mem_of_getElem? (i := 98) rfl)
theorem wd99 {Z : State} {a0 : Array Value} (hw : ∀ d ∈ tables_1, d.before a0 Z = true) : (Jvm.Cond.fieldLink "com/example/recordweave/recordweave/store/KeyIndex" (54 : Nat) "java/nio/charset/StandardCharsets" "UTF_8" "Ljava/nio/charset/Charset;").before a0 Z = true := hw _ (List.mem_of_getElem? (i := 99) rfl)
theorem wd101 {Z : State} {a0 : Array Value} (hw : ∀ d ∈ tables_1, d.before a0 Z = true) : (Jvm.Cond.methodLink "com/example/recordweave/recordweave/store/KeyIndex" (60 : Nat) ({ cls := "java/lang/String", name := "getBytes", desc := "(Ljava/nio/charset/Charset;)[B" } : Jvm.MethodName)).before a0 Z = true := hw _ (List.mem_of_getElem? (i := 101) rfl)
theorem wd102 {Z : State} {a0 : Array Value} (hw : ∀ d ∈ tables_1, d.before a0 Z = true) : (Jvm.Cond.declares ({ cls := "java/lang/String", name := "getBytes", desc := "(Ljava/nio/charset/Charset;)[B" } : Jvm.MethodName)).before a0 Z = true := hw _ (List.mem_of_getElem? (i := 102) rfl)
theorem wd103 {Z : State} {a0 : Array Value} (hw : ∀ d ∈ tables_1, d.before a0 Z = true) : (Jvm.Cond.instanceMethod ({ cls := "java/lang/String", name := "getBytes", desc := "(Ljava/nio/charset/Charset;)[B" } : Jvm.MethodName)).before a0 Z = true := hw _ (List.mem_of_getElem? (i := 103) rfl)
theorem wd104 {Z : State} {a0 : Array Value} (hw : ∀ d ∈ tables_1, d.before a0 Z = true) : (Jvm.Cond.selects "java/lang/String" ({ cls := "java/lang/String", name := "getBytes", desc := "(Ljava/nio/charset/Charset;)[B" } : Jvm.MethodName) ({ cls := "java/lang/String", name := "getBytes", desc := "(Ljava/nio/charset/Charset;)[B" } : Jvm.MethodName)).before a0 Z = true := hw _ (List.mem_of_getElem? (i := 104) rfl)
theorem wd105 {Z : State} {a0 : Array Value} (hw : ∀ d ∈ tables_1, d.before a0 Z = true) : (Jvm.Cond.code ({ cls := "java/lang/String", name := "getBytes", desc := "(Ljava/nio/charset/Charset;)[B" } : Jvm.MethodName) jdk_42_method_64_code (2 : Nat) (Option.some (Jvm.ClassFile.FieldType.array Jvm.ClassFile.FieldType.byte))).before a0 Z = true := hw _ (List.mem_of_getElem? (i := 105) rfl)
theorem wd106 {Z : State} {a0 : Array Value} (hw : ∀ d ∈ tables_1, d.before a0 Z = true) : (Jvm.Cond.methodLink "java/lang/String" (335 : Nat) ({ cls := "java/lang/String", name := "coder", desc := "()B" } : Jvm.MethodName)).before a0 Z = true := hw _ (List.mem_of_getElem? (i := 106) rfl)
theorem wd107 {Z : State} {a0 : Array Value} (hw : ∀ d ∈ tables_1, d.before a0 Z = true) : (Jvm.Cond.declares ({ cls := "java/lang/String", name := "coder", desc := "()B" } : Jvm.MethodName)).before a0 Z = true := hw _ (List.mem_of_getElem? (i := 107) rfl)
theorem wd108 {Z : State} {a0 : Array Value} (hw : ∀ d ∈ tables_1, d.before a0 Z = true) : (Jvm.Cond.instanceMethod ({ cls := "java/lang/String", name := "coder", desc := "()B" } : Jvm.MethodName)).before a0 Z = true := hw _ (List.mem_of_getElem? (i := 108) rfl)
theorem wd109 {Z : State} {a0 : Array Value} (hw : ∀ d ∈ tables_1, d.before a0 Z = true) : (Jvm.Cond.selects "java/lang/String" ({ cls := "java/lang/String", name := "coder", desc := "()B" } : Jvm.MethodName) ({ cls := "java/lang/String", name := "coder", desc := "()B" } : Jvm.MethodName)).before a0 Z = true := hw _ (List.mem_of_getElem? (i := 109) rfl)
theorem wd110 {Z : State} {a0 : Array Value} (hw : ∀ d ∈ tables_1, d.before a0 Z = true) : (Jvm.Cond.code ({ cls := "java/lang/String", name := "coder", desc := "()B" } : Jvm.MethodName) jdk_42_method_152_code (1 : Nat) (Option.some Jvm.ClassFile.FieldType.byte)).before a0 Z = true := hw _ (List.mem_of_getElem? (i := 110) rfl)
theorem wd111 {Z : State} {a0 : Array Value} (hw : ∀ d ∈ tables_1, d.before a0 Z = true) : (Jvm.Cond.fieldLink "java/lang/String" (38 : Nat) "java/lang/String" "COMPACT_STRINGS" "Z").before a0 Z = true := hw _ (List.mem_of_getElem? (i := 111) rfl)
theorem wd112 {Z : State} {a0 : Array Value} (hw : ∀ d ∈ tables_1, d.before a0 Z = true) : (Jvm.Cond.fieldLink "java/lang/String" (15 : Nat) "java/lang/String" "coder" "B").before a0 Z = true := hw _ (List.mem_of_getElem? (i := 112) rfl)
theorem wd113 {Z : State} {a0 : Array Value} (hw : ∀ d ∈ tables_1, d.before a0 Z = true) : (Jvm.Cond.fieldLink "java/lang/String" (9 : Nat) "java/lang/String" "value" "[B").before a0 Z = true := hw _ (List.mem_of_getElem? (i := 113) rfl)
theorem wd114 {Z : State} {a0 : Array Value} (hw : ∀ d ∈ tables_1, d.before a0 Z = true) : (Jvm.Cond.methodLink "java/lang/String" (535 : Nat) ({ cls := "java/lang/String", name := "encode", desc := "(Ljava/nio/charset/Charset;B[B)[B" } : Jvm.MethodName)).before a0 Z = true := hw _ (List.mem_of_getElem? (i := 114) rfl)
theorem wd115 {Z : State} {a0 : Array Value} (hw : ∀ d ∈ tables_1, d.before a0 Z = true) : (Jvm.Cond.static ({ cls := "java/lang/String", name := "encode", desc := "(Ljava/nio/charset/Charset;B[B)[B" } : Jvm.MethodName)).before a0 Z = true := hw _ (List.mem_of_getElem? (i := 115) rfl)
theorem wd116 {Z : State} {a0 : Array Value} (hw : ∀ d ∈ tables_1, d.before a0 Z = true) : (Jvm.Cond.code ({ cls := "java/lang/String", name := "encode", desc := "(Ljava/nio/charset/Charset;B[B)[B" } : Jvm.MethodName) jdk_42_method_18_code (3 : Nat) (Option.some (Jvm.ClassFile.FieldType.array Jvm.ClassFile.FieldType.byte))).before a0 Z = true := hw _ (List.mem_of_getElem? (i := 116) rfl)
theorem wd117 {Z : State} {a0 : Array Value} (hw : ∀ d ∈ tables_1, d.before a0 Z = true) : (Jvm.Cond.fieldLink "java/lang/String" (86 : Nat) "sun/nio/cs/UTF_8" "INSTANCE" "Lsun/nio/cs/UTF_8;").before a0 Z = true := hw _ (List.mem_of_getElem? (i := 117) rfl)
theorem wd119 {Z : State} {a0 : Array Value} (hw : ∀ d ∈ tables_1, d.before a0 Z = true) : (Jvm.Cond.methodLink "java/lang/String" (252 : Nat) ({ cls := "java/lang/String", name := "encodeUTF8", desc := "(B[BZ)[B" } : Jvm.MethodName)).before a0 Z = true := hw _ (List.mem_of_getElem? (i := 119) rfl)
theorem wd120 {Z : State} {a0 : Array Value} (hw : ∀ d ∈ tables_1, d.before a0 Z = true) : (Jvm.Cond.static ({ cls := "java/lang/String", name := "encodeUTF8", desc := "(B[BZ)[B" } : Jvm.MethodName)).before a0 Z = true := hw _ (List.mem_of_getElem? (i := 120) rfl)
theorem wd121 {Z : State} {a0 : Array Value} (hw : ∀ d ∈ tables_1, d.before a0 Z = true) : (Jvm.Cond.code ({ cls := "java/lang/String", name := "encodeUTF8", desc := "(B[BZ)[B" } : Jvm.MethodName) jdk_42_method_46_code (9 : Nat) (Option.some (Jvm.ClassFile.FieldType.array Jvm.ClassFile.FieldType.byte))).before a0 Z = true := hw _ (List.mem_of_getElem? (i := 121) rfl)
theorem wd122 {Z : State} {a0 : Array Value} (hw : ∀ d ∈ tables_1, d.before a0 Z = true) : (Jvm.Cond.methodLink "java/lang/String" (128 : Nat) ({ cls := "java/lang/StringCoding", name := "hasNegatives", desc := "([BII)Z" } : Jvm.MethodName)).before a0 Z = true := hw _ (List.mem_of_getElem? (i := 122) rfl)
theorem wd123 {Z : State} {a0 : Array Value} (hw : ∀ d ∈ tables_1, d.before a0 Z = true) : (Jvm.Cond.static ({ cls := "java/lang/StringCoding", name := "hasNegatives", desc := "([BII)Z" } : Jvm.MethodName)).before a0 Z = true := hw _ (List.mem_of_getElem? (i := 123) rfl)
theorem wd124 {Z : State} {a0 : Array Value} (hw : ∀ d ∈ tables_1, d.before a0 Z = true) : (Jvm.Cond.initialized "java/lang/StringCoding").before a0 Z = true := hw _ (List.mem_of_getElem? (i := 124) rfl)
theorem wd125 {Z : State} {a0 : Array Value} (hw : ∀ d ∈ tables_1, d.before a0 Z = true) : (Jvm.Cond.code ({ cls := "java/lang/StringCoding", name := "hasNegatives", desc := "([BII)Z" } : Jvm.MethodName) jdk_123_method_2_code (3 : Nat) (Option.some Jvm.ClassFile.FieldType.boolean)).before a0 Z = true := hw _ (List.mem_of_getElem? (i := 125) rfl)
theorem wd126 {Z : State} {a0 : Array Value} (hw : ∀ d ∈ tables_1, d.before a0 Z = true) : (Jvm.Cond.methodLink "java/lang/StringCoding" (7 : Nat) ({ cls := "java/lang/StringCoding", name := "countPositives", desc := "([BII)I" } : Jvm.MethodName)).before a0 Z = true := hw _ (List.mem_of_getElem? (i := 126) rfl)
theorem wd127 {Z : State} {a0 : Array Value} (hw : ∀ d ∈ tables_1, d.before a0 Z = true) : (Jvm.Cond.static ({ cls := "java/lang/StringCoding", name := "countPositives", desc := "([BII)I" } : Jvm.MethodName)).before a0 Z = true := hw _ (List.mem_of_getElem? (i := 127) rfl)
theorem wd128 {Z : State} {a0 : Array Value} (hw : ∀ d ∈ tables_1, d.before a0 Z = true) : (Jvm.Cond.code ({ cls := "java/lang/StringCoding", name := "countPositives", desc := "([BII)I" } : Jvm.MethodName) jdk_123_method_3_code (5 : Nat) (Option.some Jvm.ClassFile.FieldType.int)).before a0 Z = true := hw _ (List.mem_of_getElem? (i := 128) rfl)
theorem wd129 {Z : State} {a0 : Array Value} (hw : ∀ d ∈ tables_1, d.before a0 Z = true) : (Jvm.Cond.methodLink "java/lang/String" (279 : Nat) ({ cls := "[B", name := "clone", desc := "()Ljava/lang/Object;" } : Jvm.MethodName)).before a0 Z = true := hw _ (List.mem_of_getElem? (i := 129) rfl)
theorem wd130 {Z : State} {a0 : Array Value} (hw : ∀ d ∈ tables_1, d.before a0 Z = true) : (Jvm.Cond.sameMethod "[B" "java/lang/Object" "clone" "()Ljava/lang/Object;").before a0 Z = true := hw _ (List.mem_of_getElem? (i := 130) rfl)
theorem wd132 {Z : State} {a0 : Array Value} (hw : ∀ d ∈ tables_1, d.before a0 Z = true) : (Jvm.Cond.instanceMethod ({ cls := "java/lang/Object", name := "clone", desc := "()Ljava/lang/Object;" } : Jvm.MethodName)).before a0 Z = true := hw _ (List.mem_of_getElem? (i := 132) rfl)
theorem wd133 {Z : State} {a0 : Array Value} (hw : ∀ d ∈ tables_1, d.before a0 Z = true) : (Jvm.Cond.selects "[B" ({ cls := "[B", name := "clone", desc := "()Ljava/lang/Object;" } : Jvm.MethodName) ({ cls := "java/lang/Object", name := "clone", desc := "()Ljava/lang/Object;" } : Jvm.MethodName)).before a0 Z = true := hw _ (List.mem_of_getElem? (i := 133) rfl)
theorem wd134 {Z : State} {a0 : Array Value} (hw : ∀ d ∈ tables_1, d.before a0 Z = true) : (Jvm.Cond.native ({ cls := "java/lang/Object", name := "clone", desc := "()Ljava/lang/Object;" } : Jvm.MethodName)).before a0 Z = true := hw _ (List.mem_of_getElem? (i := 134) rfl)
theorem wd135 {Z : State} {a0 : Array Value} (hw : ∀ d ∈ tables_1, d.before a0 Z = true) : (Jvm.Cond.castable "[B" "java/lang/Cloneable").before a0 Z = true := hw _ (List.mem_of_getElem? (i := 135) rfl)
theorem wd136 {Z : State} {a0 : Array Value} (hw : ∀ d ∈ tables_1, d.before a0 Z = true) : (Jvm.Cond.classLink "java/lang/String" (280 : Nat) "[B").before a0 Z = true := hw _ (List.mem_of_getElem? (i := 136) rfl)
theorem wd138 {Z : State} {a0 : Array Value} (hw : ∀ d ∈ tables_1, d.before a0 Z = true) : (Jvm.Cond.methodLink "com/example/recordweave/recordweave/store/KeyIndex" (80 : Nat) ({ cls := "com/example/recordweave/recordweave/store/KeyIndex", name := "find", desc := "([BII)I" } : Jvm.MethodName)).before a0 Z = true := hw _ (List.mem_of_getElem? (i := 138) rfl)
theorem wd139 {Z : State} {a0 : Array Value} (hw : ∀ d ∈ tables_1, d.before a0 Z = true) : (Jvm.Cond.instanceMethod ({ cls := "com/example/recordweave/recordweave/store/KeyIndex", name := "find", desc := "([BII)I" } : Jvm.MethodName)).before a0 Z = true := hw _ (List.mem_of_getElem? (i := 139) rfl)
theorem wd140 {Z : State} {a0 : Array Value} (hw : ∀ d ∈ tables_1, d.before a0 Z = true) : (Jvm.Cond.privateMethod ({ cls := "com/example/recordweave/recordweave/store/KeyIndex", name := "find", desc := "([BII)I" } : Jvm.MethodName)).before a0 Z = true := hw _ (List.mem_of_getElem? (i := 140) rfl)
theorem wd141 {Z : State} {a0 : Array Value} (hw : ∀ d ∈ tables_1, d.before a0 Z = true) : (Jvm.Cond.code ({ cls := "com/example/recordweave/recordweave/store/KeyIndex", name := "find", desc := "([BII)I" } : Jvm.MethodName) prog_1_method_4_code (8 : Nat) (Option.some Jvm.ClassFile.FieldType.int)).before a0 Z = true := hw _ (List.mem_of_getElem? (i := 141) rfl)
theorem wd142 {Z : State} {a0 : Array Value} (hw : ∀ d ∈ tables_1, d.before a0 Z = true) : (Jvm.Cond.methodLink "com/example/recordweave/recordweave/store/KeyIndex" (88 : Nat) ({ cls := "com/example/recordweave/recordweave/store/KeyIndex", name := "hash", desc := "([BII)I" } : Jvm.MethodName)).before a0 Z = true := hw _ (List.mem_of_getElem? (i := 142) rfl)
theorem wd143 {Z : State} {a0 : Array Value} (hw : ∀ d ∈ tables_1, d.before a0 Z = true) : (Jvm.Cond.static ({ cls := "com/example/recordweave/recordweave/store/KeyIndex", name := "hash", desc := "([BII)I" } : Jvm.MethodName)).before a0 Z = true := hw _ (List.mem_of_getElem? (i := 143) rfl)
theorem wd144 {Z : State} {a0 : Array Value} (hw : ∀ d ∈ tables_1, d.before a0 Z = true) : (Jvm.Cond.code ({ cls := "com/example/recordweave/recordweave/store/KeyIndex", name := "hash", desc := "([BII)I" } : Jvm.MethodName) prog_1_method_7_code (5 : Nat) (Option.some Jvm.ClassFile.FieldType.int)).before a0 Z = true := hw _ (List.mem_of_getElem? (i := 144) rfl)
theorem wd145 {Z : State} {a0 : Array Value} (hw : ∀ d ∈ tables_1, d.before a0 Z = true) : (Jvm.Cond.constant "com/example/recordweave/recordweave/store/KeyIndex" (107 : Nat) (-2048144789 : Int32)).before a0 Z = true := hw _ (List.mem_of_getElem? (i := 145) rfl)
theorem wd146 {Z : State} {a0 : Array Value} (hw : ∀ d ∈ tables_1, d.before a0 Z = true) : (Jvm.Cond.constant "com/example/recordweave/recordweave/store/KeyIndex" (108 : Nat) (-1028477387 : Int32)).before a0 Z = true := hw _ (List.mem_of_getElem? (i := 146) rfl)
theorem wd147 {Z : State} {a0 : Array Value} (hw : ∀ d ∈ tables_1, d.before a0 Z = true) : (Jvm.Cond.methodLink "com/example/recordweave/recordweave/store/KeyIndexFileOfPinLaw" (37 : Nat) ({ cls := "com/example/recordweave/recordweave/store/KeyIndex", name := "add", desc := "(Ljava/util/List;)I" } : Jvm.MethodName)).before a0 Z = true := hw _ (List.mem_of_getElem? (i := 147) rfl)
theorem wd148 {Z : State} {a0 : Array Value} (hw : ∀ d ∈ tables_1, d.before a0 Z = true) : (Jvm.Cond.declares ({ cls := "com/example/recordweave/recordweave/store/KeyIndex", name := "add", desc := "(Ljava/util/List;)I" } : Jvm.MethodName)).before a0 Z = true := hw _ (List.mem_of_getElem? (i := 148) rfl)
theorem wd149 {Z : State} {a0 : Array Value} (hw : ∀ d ∈ tables_1, d.before a0 Z = true) : (Jvm.Cond.instanceMethod ({ cls := "com/example/recordweave/recordweave/store/KeyIndex", name := "add", desc := "(Ljava/util/List;)I" } : Jvm.MethodName)).before a0 Z = true := hw _ (List.mem_of_getElem? (i := 149) rfl)
theorem wd150 {Z : State} {a0 : Array Value} (hw : ∀ d ∈ tables_1, d.before a0 Z = true) : (Jvm.Cond.selects "com/example/recordweave/recordweave/store/KeyIndex" ({ cls := "com/example/recordweave/recordweave/store/KeyIndex", name := "add", desc := "(Ljava/util/List;)I" } : Jvm.MethodName) ({ cls := "com/example/recordweave/recordweave/store/KeyIndex", name := "add", desc := "(Ljava/util/List;)I" } : Jvm.MethodName)).before a0 Z = true := hw _ (List.mem_of_getElem? (i := 150) rfl)
theorem wd151 {Z : State} {a0 : Array Value} (hw : ∀ d ∈ tables_1, d.before a0 Z = true) : (Jvm.Cond.code ({ cls := "com/example/recordweave/recordweave/store/KeyIndex", name := "add", desc := "(Ljava/util/List;)I" } : Jvm.MethodName) prog_1_method_2_code (10 : Nat) (Option.some Jvm.ClassFile.FieldType.int)).before a0 Z = true := hw _ (List.mem_of_getElem? (i := 151) rfl)
theorem wd152 {Z : State} {a0 : Array Value} (hw : ∀ d ∈ tables_1, d.before a0 Z = true) : (Jvm.Cond.methodLink "com/example/recordweave/recordweave/store/KeyIndex" (29 : Nat) ({ cls := "java/util/List", name := "size", desc := "()I" } : Jvm.MethodName)).before a0 Z = true := hw _ (List.mem_of_getElem? (i := 152) rfl)
theorem wd153 {Z : State} {a0 : Array Value} (hw : ∀ d ∈ tables_1, d.before a0 Z = true) : (Jvm.Cond.declares ({ cls := "java/util/List", name := "size", desc := "()I" } : Jvm.MethodName)).before a0 Z = true := hw _ (List.mem_of_getElem? (i := 153) rfl)
theorem wd154 {Z : State} {a0 : Array Value} (hw : ∀ d ∈ tables_1, d.before a0 Z = true) : (Jvm.Cond.interfaceMethod "java/util/List" "java/util/List" "size" "()I").before a0 Z = true := hw _ (List.mem_of_getElem? (i := 154) rfl)
theorem wd155 {Z : State} {a0 : Array Value} (hw : ∀ d ∈ tables_1, d.before a0 Z = true) : (Jvm.Cond.selects "java/util/ArrayList" ({ cls := "java/util/List", name := "size", desc := "()I" } : Jvm.MethodName) ({ cls := "java/util/ArrayList", name := "size", desc := "()I" } : Jvm.MethodName)).before a0 Z = true := hw _ (List.mem_of_getElem? (i := 155) rfl)
theorem wd156 {Z : State} {a0 : Array Value} (hw : ∀ d ∈ tables_1, d.before a0 Z = true) : (Jvm.Cond.instanceMethod ({ cls := "java/util/ArrayList", name := "size", desc := "()I" } : Jvm.MethodName)).before a0 Z = true := hw _ (List.mem_of_getElem? (i := 156) rfl)
theorem wd157 {Z : State} {a0 : Array Value} (hw : ∀ d ∈ tables_1, d.before a0 Z = true) : (Jvm.Cond.publicMethod ({ cls := "java/util/ArrayList", name := "size", desc := "()I" } : Jvm.MethodName)).before a0 Z = true := hw _ (List.mem_of_getElem? (i := 157) rfl)
theorem wd158 {Z : State} {a0 : Array Value} (hw : ∀ d ∈ tables_1, d.before a0 Z = true) : (Jvm.Cond.unhidden "java/util/ArrayList" "size" "()I").before a0 Z = true := hw _ (List.mem_of_getElem? (i := 158) rfl)
theorem wd159 {Z : State} {a0 : Array Value} (hw : ∀ d ∈ tables_1, d.before a0 Z = true) : (Jvm.Cond.code ({ cls := "java/util/ArrayList", name := "size", desc := "()I" } : Jvm.MethodName) jdk_38_method_8_code (1 : Nat) (Option.some Jvm.ClassFile.FieldType.int)).before a0 Z = true := hw _ (List.mem_of_getElem? (i := 159) rfl)
theorem wd160 {Z : State} {a0 : Array Value} (hw : ∀ d ∈ tables_1, d.before a0 Z = true) : (Jvm.Cond.methodLink "com/example/recordweave/recordweave/store/KeyIndex" (35 : Nat) ({ cls := "java/util/ArrayList", name := "<init>", desc := "(I)V" } : Jvm.MethodName)).before a0 Z = true := hw _ (List.mem_of_getElem? (i := 160) rfl)
theorem wd161 {Z : State} {a0 : Array Value} (hw : ∀ d ∈ tables_1, d.before a0 Z = true) : (Jvm.Cond.instanceMethod ({ cls := "java/util/ArrayList", name := "<init>", desc := "(I)V" } : Jvm.MethodName)).before a0 Z = true := hw _ (List.mem_of_getElem? (i := 161) rfl)
theorem wd162 {Z : State} {a0 : Array Value} (hw : ∀ d ∈ tables_1, d.before a0 Z = true) : (Jvm.Cond.code ({ cls := "java/util/ArrayList", name := "<init>", desc := "(I)V" } : Jvm.MethodName) jdk_38_method_1_code (2 : Nat) (Option.none : Option Jvm.ClassFile.FieldType)).before a0 Z = true := hw _ (List.mem_of_getElem? (i := 162) rfl)
theorem wd163 {Z : State} {a0 : Array Value} (hw : ∀ d ∈ tables_1, d.before a0 Z = true) : (Jvm.Cond.methodLink "com/example/recordweave/recordweave/store/KeyIndex" (38 : Nat) ({ cls := "java/util/List", name := "iterator", desc := "()Ljava/util/Iterator;" } : Jvm.MethodName)).before a0 Z = true := hw _ (List.mem_of_getElem? (i := 163) rfl)
theorem wd164 {Z : State} {a0 : Array Value} (hw : ∀ d ∈ tables_1, d.before a0 Z = true) : (Jvm.Cond.declares ({ cls := "java/util/List", name := "iterator", desc := "()Ljava/util/Iterator;" } : Jvm.MethodName)).before a0 Z = true := hw _ (List.mem_of_getElem? (i := 164) rfl)
theorem wd165 {Z : State} {a0 : Array Value} (hw : ∀ d ∈ tables_1, d.before a0 Z = true) : (Jvm.Cond.interfaceMethod "java/util/List" "java/util/List" "iterator" "()Ljava/util/Iterator;").before a0 Z = true := hw _ (List.mem_of_getElem? (i := 165) rfl)
theorem wd166 {Z : State} {a0 : Array Value} (hw : ∀ d ∈ tables_1, d.before a0 Z = true) : (Jvm.Cond.selects "java/util/ArrayList" ({ cls := "java/util/List", name := "iterator", desc := "()Ljava/util/Iterator;" } : Jvm.MethodName) ({ cls := "java/util/ArrayList", name := "iterator", desc := "()Ljava/util/Iterator;" } : Jvm.MethodName)).before a0 Z = true := hw _ (List.mem_of_getElem? (i := 166) rfl)
theorem wd167 {Z : State} {a0 : Array Value} (hw : ∀ d ∈ tables_1, d.before a0 Z = true) : (Jvm.Cond.instanceMethod ({ cls := "java/util/ArrayList", name := "iterator", desc := "()Ljava/util/Iterator;" } : Jvm.MethodName)).before a0 Z = true := hw _ (List.mem_of_getElem? (i := 167) rfl)
theorem wd168 {Z : State} {a0 : Array Value} (hw : ∀ d ∈ tables_1, d.before a0 Z = true) : (Jvm.Cond.publicMethod ({ cls := "java/util/ArrayList", name := "iterator", desc := "()Ljava/util/Iterator;" } : Jvm.MethodName)).before a0 Z = true := hw _ (List.mem_of_getElem? (i := 168) rfl)
theorem wd169 {Z : State} {a0 : Array Value} (hw : ∀ d ∈ tables_1, d.before a0 Z = true) : (Jvm.Cond.unhidden "java/util/ArrayList" "iterator" "()Ljava/util/Iterator;").before a0 Z = true := hw _ (List.mem_of_getElem? (i := 169) rfl)
theorem wd170 {Z : State} {a0 : Array Value} (hw : ∀ d ∈ tables_1, d.before a0 Z = true) : (Jvm.Cond.code ({ cls := "java/util/ArrayList", name := "iterator", desc := "()Ljava/util/Iterator;" } : Jvm.MethodName) jdk_38_method_55_code (1 : Nat) (Option.some (Jvm.ClassFile.FieldType.object "java/util/Iterator"))).before a0 Z = true := hw _ (List.mem_of_getElem? (i := 170) rfl)
theorem wd171 {Z : State} {a0 : Array Value} (hw : ∀ d ∈ tables_1, d.before a0 Z = true) : (Jvm.Cond.classLink "java/util/ArrayList" (267 : Nat) "java/util/ArrayList$Itr").before a0 Z = true := hw _ (List.mem_of_getElem? (i := 171) rfl)
theorem wd172 {Z : State} {a0 : Array Value} (hw : ∀ d ∈ tables_1, d.before a0 Z = true) : (Jvm.Cond.instantiable "java/util/ArrayList$Itr" (4 : Nat)).before a0 Z = true := hw _ (List.mem_of_getElem? (i := 172) rfl)
theorem wd173 {Z : State} {a0 : Array Value} (hw : ∀ d ∈ tables_1, d.before a0 Z = true) : (Jvm.Cond.initialized "java/util/ArrayList$Itr").before a0 Z = true := hw _ (List.mem_of_getElem? (i := 173) rfl)
theorem wd174 {Z : State} {a0 : Array Value} (hw : ∀ d ∈ tables_1, d.before a0 Z = true) : (Jvm.Cond.methodLink "java/util/ArrayList" (269 : Nat) ({ cls := "java/util/ArrayList$Itr", name := "<init>", desc := "(Ljava/util/ArrayList;)V" } : Jvm.MethodName)).before a0 Z = true := hw _ (List.mem_of_getElem? (i := 174) rfl)
theorem wd175 {Z : State} {a0 : Array Value} (hw : ∀ d ∈ tables_1, d.before a0 Z = true) : (Jvm.Cond.instanceMethod ({ cls := "java/util/ArrayList$Itr", name := "<init>", desc := "(Ljava/util/ArrayList;)V" } : Jvm.MethodName)).before a0 Z = true := hw _ (List.mem_of_getElem? (i := 175) rfl)
theorem wd177 {Z : State} {a0 : Array Value} (hw : ∀ d ∈ tables_1, d.before a0 Z = true) : (Jvm.Cond.code ({ cls := "java/util/ArrayList$Itr", name := "<init>", desc := "(Ljava/util/ArrayList;)V" } : Jvm.MethodName) jdk_49_method_1_code (2 : Nat) (Option.none : Option Jvm.ClassFile.FieldType)).before a0 Z = true := hw _ (List.mem_of_getElem? (i := 177) rfl)
theorem wd178 {Z : State} {a0 : Array Value} (hw : ∀ d ∈ tables_1, d.before a0 Z = true) : (Jvm.Cond.fieldLink "java/util/ArrayList$Itr" (1 : Nat) "java/util/ArrayList$Itr" "this$0" "Ljava/util/ArrayList;").before a0 Z = true := hw _ (List.mem_of_getElem? (i := 178) rfl)
theorem wd179 {Z : State} {a0 : Array Value} (hw : ∀ d ∈ tables_1, d.before a0 Z = true) : (Jvm.Cond.laysFinal "java/util/ArrayList$Itr" "java/util/ArrayList$Itr" "this$0" "Ljava/util/ArrayList;").before a0 Z = true := hw _ (List.mem_of_getElem? (i := 179) rfl)
theorem wd180 {Z : State} {a0 : Array Value} (hw : ∀ d ∈ tables_1, d.before a0 Z = true) : (Jvm.Cond.methodLink "java/util/ArrayList$Itr" (7 : Nat) ({ cls := "java/lang/Object", name := "<init>", desc := "()V" } : Jvm.MethodName)).before a0 Z = true := hw _ (List.mem_of_getElem? (i := 180) rfl)
theorem wd181 {Z : State} {a0 : Array Value} (hw : ∀ d ∈ tables_1, d.before a0 Z = true) : (Jvm.Cond.fieldLink "java/util/ArrayList$Itr" (13 : Nat) "java/util/ArrayList$Itr" "lastRet" "I").before a0 Z = true := hw _ (List.mem_of_getElem? (i := 181) rfl)
theorem wd182 {Z : State} {a0 : Array Value} (hw : ∀ d ∈ tables_1, d.before a0 Z = true) : (Jvm.Cond.lays "java/util/ArrayList$Itr" "java/util/ArrayList$Itr" "lastRet" "I").before a0 Z = true := hw _ (List.mem_of_getElem? (i := 182) rfl)
theorem wd183 {Z : State} {a0 : Array Value} (hw : ∀ d ∈ tables_1, d.before a0 Z = true) : (Jvm.Cond.fieldLink "java/util/ArrayList$Itr" (17 : Nat) "java/util/ArrayList" "modCount" "I").before a0 Z = true := hw _ (List.mem_of_getElem? (i := 183) rfl)
theorem wd184 {Z : State} {a0 : Array Value} (hw : ∀ d ∈ tables_1, d.before a0 Z = true) : (Jvm.Cond.fieldLink "java/util/ArrayList$Itr" (22 : Nat) "java/util/ArrayList$Itr" "expectedModCount" "I").before a0 Z = true := hw _ (List.mem_of_getElem? (i := 184) rfl)
theorem wd185 {Z : State} {a0 : Array Value} (hw : ∀ d ∈ tables_1, d.before a0 Z = true) : (Jvm.Cond.lays "java/util/ArrayList$Itr" "java/util/ArrayList$Itr" "expectedModCount" "I").before a0 Z = true := hw _ (List.mem_of_getElem? (i := 185) rfl)
theorem wd186 {Z : State} {a0 : Array Value} (hw : ∀ d ∈ tables_1, d.before a0 Z = true) : (Jvm.Cond.methodLink "com/example/recordweave/recordweave/store/KeyIndex" (42 : Nat) ({ cls := "java/util/Iterator", name := "hasNext", desc := "()Z" } : Jvm.MethodName)).before a0 Z = true := hw _ (List.mem_of_getElem? (i := 186) rfl)
theorem wd187 {Z : State} {a0 : Array Value} (hw : ∀ d ∈ tables_1, d.before a0 Z = true) : (Jvm.Cond.declares ({ cls := "java/util/Iterator", name := "hasNext", desc := "()Z" } : Jvm.MethodName)).before a0 Z = true := hw _ (List.mem_of_getElem? (i := 187) rfl)
theorem wd188 {Z : State} {a0 : Array Value} (hw : ∀ d ∈ tables_1, d.before a0 Z = true) : (Jvm.Cond.interfaceMethod "java/util/Iterator" "java/util/Iterator" "hasNext" "()Z").before a0 Z = true := hw _ (List.mem_of_getElem? (i := 188) rfl)
theorem wd189 {Z : State} {a0 : Array Value} (hw : ∀ d ∈ tables_1, d.before a0 Z = true) : (Jvm.Cond.selects "java/util/ArrayList$Itr" ({ cls := "java/util/Iterator", name := "hasNext", desc := "()Z" } : Jvm.MethodName) ({ cls := "java/util/ArrayList$Itr", name := "hasNext", desc := "()Z" } : Jvm.MethodName)).before a0 Z = true := hw _ (List.mem_of_getElem? (i := 189) rfl)
theorem wd190 {Z : State} {a0 : Array Value} (hw : ∀ d ∈ tables_1, d.before a0 Z = true) : (Jvm.Cond.instanceMethod ({ cls := "java/util/ArrayList$Itr", name := "hasNext", desc := "()Z" } : Jvm.MethodName)).before a0 Z = true := hw _ (List.mem_of_getElem? (i := 190) rfl)
theorem wd191 {Z : State} {a0 : Array Value} (hw : ∀ d ∈ tables_1, d.before a0 Z = true) : (Jvm.Cond.publicMethod ({ cls := "java/util/ArrayList$Itr", name := "hasNext", desc := "()Z" } : Jvm.MethodName)).before a0 Z = true := hw _ (List.mem_of_getElem? (i := 191) rfl)
theorem wd192 {Z : State} {a0 : Array Value} (hw : ∀ d ∈ tables_1, d.before a0 Z = true) : (Jvm.Cond.unhidden "java/util/ArrayList$Itr" "hasNext" "()Z").before a0 Z = true := hw _ (List.mem_of_getElem? (i := 192) rfl)
theorem wd193 {Z : State} {a0 : Array Value} (hw : ∀ d ∈ tables_1, d.before a0 Z = true) : (Jvm.Cond.castable "java/util/ArrayList$Itr" "java/util/Iterator").before a0 Z = true := hw _ (List.mem_of_getElem? (i := 193) rfl)
theorem wd194 {Z : State} {a0 : Array Value} (hw : ∀ d ∈ tables_1, d.before a0 Z = true) : (Jvm.Cond.code ({ cls := "java/util/ArrayList$Itr", name := "hasNext", desc := "()Z" } : Jvm.MethodName) jdk_49_method_2_code (1 : Nat) (Option.some Jvm.ClassFile.FieldType.boolean)).before a0 Z = true := hw _ (List.mem_of_getElem? (i := 194) rfl)
theorem wd195 {Z : State} {a0 : Array Value} (hw : ∀ d ∈ tables_1, d.before a0 Z = true) : (Jvm.Cond.fieldLink "java/util/ArrayList$Itr" (25 : Nat) "java/util/ArrayList$Itr" "cursor" "I").before a0 Z = true := hw _ (List.mem_of_getElem? (i := 195) rfl)
theorem wd196 {Z : State} {a0 : Array Value} (hw : ∀ d ∈ tables_1, d.before a0 Z = true) : (Jvm.Cond.lays "java/util/ArrayList$Itr" "java/util/ArrayList$Itr" "cursor" "I").before a0 Z = true := hw _ (List.mem_of_getElem? (i := 196) rfl)
theorem wd197 {Z : State} {a0 : Array Value} (hw : ∀ d ∈ tables_1, d.before a0 Z = true) : (Jvm.Cond.fieldLinkNest "java/util/ArrayList$Itr" (28 : Nat) "java/util/ArrayList" "size" "I" "java/util/ArrayList").before a0 Z = true := hw _ (List.mem_of_getElem? (i := 197) rfl)
theorem wd198 {Z : State} {a0 : Array Value} (hw : ∀ d ∈ tables_1, d.before a0 Z = true) : (Jvm.Cond.methodLink "com/example/recordweave/recordweave/store/KeyIndex" (48 : Nat) ({ cls := "java/util/Iterator", name := "next", desc := "()Ljava/lang/Object;" } : Jvm.MethodName)).before a0 Z = true := hw _ (List.mem_of_getElem? (i := 198) rfl)
theorem wd199 {Z : State} {a0 : Array Value} (hw : ∀ d ∈ tables_1, d.before a0 Z = true) : (Jvm.Cond.declares ({ cls := "java/util/Iterator", name := "next", desc := "()Ljava/lang/Object;" } : Jvm.MethodName)).before a0 Z = true := hw _ (List.mem_of_getElem? (i := 199) rfl)
theorem wd200 {Z : State} {a0 : Array Value} (hw : ∀ d ∈ tables_1, d.before a0 Z = true) : (Jvm.Cond.interfaceMethod "java/util/Iterator" "java/util/Iterator" "next" "()Ljava/lang/Object;").before a0 Z = true := hw _ (List.mem_of_getElem? (i := 200) rfl)
theorem wd201 {Z : State} {a0 : Array Value} (hw : ∀ d ∈ tables_1, d.before a0 Z = true) : (Jvm.Cond.selects "java/util/ArrayList$Itr" ({ cls := "java/util/Iterator", name := "next", desc := "()Ljava/lang/Object;" } : Jvm.MethodName) ({ cls := "java/util/ArrayList$Itr", name := "next", desc := "()Ljava/lang/Object;" } : Jvm.MethodName)).before a0 Z = true := hw _ (List.mem_of_getElem? (i := 201) rfl)
theorem wd202 {Z : State} {a0 : Array Value} (hw : ∀ d ∈ tables_1, d.before a0 Z = true) : (Jvm.Cond.instanceMethod ({ cls := "java/util/ArrayList$Itr", name := "next", desc := "()Ljava/lang/Object;" } : Jvm.MethodName)).before a0 Z = true := hw _ (List.mem_of_getElem? (i := 202) rfl)
theorem wd203 {Z : State} {a0 : Array Value} (hw : ∀ d ∈ tables_1, d.before a0 Z = true) : (Jvm.Cond.publicMethod ({ cls := "java/util/ArrayList$Itr", name := "next", desc := "()Ljava/lang/Object;" } : Jvm.MethodName)).before a0 Z = true := hw _ (List.mem_of_getElem? (i := 203) rfl)
theorem wd204 {Z : State} {a0 : Array Value} (hw : ∀ d ∈ tables_1, d.before a0 Z = true) : (Jvm.Cond.unhidden "java/util/ArrayList$Itr" "next" "()Ljava/lang/Object;").before a0 Z = true := hw _ (List.mem_of_getElem? (i := 204) rfl)
theorem wd205 {Z : State} {a0 : Array Value} (hw : ∀ d ∈ tables_1, d.before a0 Z = true) : (Jvm.Cond.code ({ cls := "java/util/ArrayList$Itr", name := "next", desc := "()Ljava/lang/Object;" } : Jvm.MethodName) jdk_49_method_3_code (3 : Nat) (Option.some (Jvm.ClassFile.FieldType.object "java/lang/Object"))).before a0 Z = true := hw _ (List.mem_of_getElem? (i := 205) rfl)
theorem wd206 {Z : State} {a0 : Array Value} (hw : ∀ d ∈ tables_1, d.before a0 Z = true) : (Jvm.Cond.methodLink "java/util/ArrayList$Itr" (31 : Nat) ({ cls := "java/util/ArrayList$Itr", name := "checkForComodification", desc := "()V" } : Jvm.MethodName)).before a0 Z = true := hw _ (List.mem_of_getElem? (i := 206) rfl)
theorem wd207 {Z : State} {a0 : Array Value} (hw : ∀ d ∈ tables_1, d.before a0 Z = true) : (Jvm.Cond.declares ({ cls := "java/util/ArrayList$Itr", name := "checkForComodification", desc := "()V" } : Jvm.MethodName)).before a0 Z = true := hw _ (List.mem_of_getElem? (i := 207) rfl)
theorem wd208 {Z : State} {a0 : Array Value} (hw : ∀ d ∈ tables_1, d.before a0 Z = true) : (Jvm.Cond.instanceMethod ({ cls := "java/util/ArrayList$Itr", name := "checkForComodification", desc := "()V" } : Jvm.MethodName)).before a0 Z = true := hw _ (List.mem_of_getElem? (i := 208) rfl)
theorem wd209 {Z : State} {a0 : Array Value} (hw : ∀ d ∈ tables_1, d.before a0 Z = true) : (Jvm.Cond.selects "java/util/ArrayList$Itr" ({ cls := "java/util/ArrayList$Itr", name := "checkForComodification", desc := "()V" } : Jvm.MethodName) ({ cls := "java/util/ArrayList$Itr", name := "checkForComodification", desc := "()V" } : Jvm.MethodName)).before a0 Z = true := hw _ (List.mem_of_getElem? (i := 209) rfl)
theorem wd210 {Z : State} {a0 : Array Value} (hw : ∀ d ∈ tables_1, d.before a0 Z = true) : (Jvm.Cond.code ({ cls := "java/util/ArrayList$Itr", name := "checkForComodification", desc := "()V" } : Jvm.MethodName) jdk_49_method_6_code (1 : Nat) (Option.none : Option Jvm.ClassFile.FieldType)).before a0 Z = true := hw _ (List.mem_of_getElem? (i := 210) rfl)
theorem wd211 {Z : State} {a0 : Array Value} (hw : ∀ d ∈ tables_1, d.before a0 Z = true) : (Jvm.Cond.fieldLink "java/util/ArrayList$Itr" (37 : Nat) "java/util/ArrayList" "elementData" "[Ljava/lang/Object;").before a0 Z = true := hw _ (List.mem_of_getElem? (i := 211) rfl)
theorem wd212 {Z : State} {a0 : Array Value} (hw : ∀ d ∈ tables_1, d.before a0 Z = true) : (Jvm.Cond.classLink "com/example/recordweave/recordweave/store/KeyIndex" (52 : Nat) "java/lang/String").before a0 Z = true := hw _ (List.mem_of_getElem? (i := 212) rfl)
theorem wd214 {Z : State} {a0 : Array Value} (hw : ∀ d ∈ tables_1, d.before a0 Z = true) : (Jvm.Cond.methodLink "com/example/recordweave/recordweave/store/KeyIndex" (64 : Nat) ({ cls := "java/util/List", name := "add", desc := "(Ljava/lang/Object;)Z" } : Jvm.MethodName)).before a0 Z = true := hw _ (List.mem_of_getElem? (i := 214) rfl)
theorem wd215 {Z : State} {a0 : Array Value} (hw : ∀ d ∈ tables_1, d.before a0 Z = true) : (Jvm.Cond.castable "[B" "java/lang/Object").before a0 Z = true := hw _ (List.mem_of_getElem? (i := 215) rfl)
theorem wd216 {Z : State} {a0 : Array Value} (hw : ∀ d ∈ tables_1, d.before a0 Z = true) : (Jvm.Cond.methodLink "com/example/recordweave/recordweave/store/KeyIndex" (68 : Nat) ({ cls := "java/util/List", name := "get", desc := "(I)Ljava/lang/Object;" } : Jvm.MethodName)).before a0 Z = true := hw _ (List.mem_of_getElem? (i := 216) rfl)
theorem wd217 {Z : State} {a0 : Array Value} (hw : ∀ d ∈ tables_1, d.before a0 Z = true) : (Jvm.Cond.declares ({ cls := "java/util/List", name := "get", desc := "(I)Ljava/lang/Object;" } : Jvm.MethodName)).before a0 Z = true := hw _ (List.mem_of_getElem? (i := 217) rfl)
theorem wd218 {Z : State} {a0 : Array Value} (hw : ∀ d ∈ tables_1, d.before a0 Z = true) : (Jvm.Cond.interfaceMethod "java/util/List" "java/util/List" "get" "(I)Ljava/lang/Object;").before a0 Z = true := hw _ (List.mem_of_getElem? (i := 218) rfl)
theorem wd219 {Z : State} {a0 : Array Value} (hw : ∀ d ∈ tables_1, d.before a0 Z = true) : (Jvm.Cond.selects "java/util/ArrayList" ({ cls := "java/util/List", name := "get", desc := "(I)Ljava/lang/Object;" } : Jvm.MethodName) ({ cls := "java/util/ArrayList", name := "get", desc := "(I)Ljava/lang/Object;" } : Jvm.MethodName)).before a0 Z = true := hw _ (List.mem_of_getElem? (i := 219) rfl)
theorem wd220 {Z : State} {a0 : Array Value} (hw : ∀ d ∈ tables_1, d.before a0 Z = true) : (Jvm.Cond.instanceMethod ({ cls := "java/util/ArrayList", name := "get", desc := "(I)Ljava/lang/Object;" } : Jvm.MethodName)).before a0 Z = true := hw _ (List.mem_of_getElem? (i := 220) rfl)
theorem wd221 {Z : State} {a0 : Array Value} (hw : ∀ d ∈ tables_1, d.before a0 Z = true) : (Jvm.Cond.publicMethod ({ cls := "java/util/ArrayList", name := "get", desc := "(I)Ljava/lang/Object;" } : Jvm.MethodName)).before a0 Z = true := hw _ (List.mem_of_getElem? (i := 221) rfl)
theorem wd222 {Z : State} {a0 : Array Value} (hw : ∀ d ∈ tables_1, d.before a0 Z = true) : (Jvm.Cond.unhidden "java/util/ArrayList" "get" "(I)Ljava/lang/Object;").before a0 Z = true := hw _ (List.mem_of_getElem? (i := 222) rfl)
theorem wd223 {Z : State} {a0 : Array Value} (hw : ∀ d ∈ tables_1, d.before a0 Z = true) : (Jvm.Cond.code ({ cls := "java/util/ArrayList", name := "get", desc := "(I)Ljava/lang/Object;" } : Jvm.MethodName) jdk_38_method_20_code (2 : Nat) (Option.some (Jvm.ClassFile.FieldType.object "java/lang/Object"))).before a0 Z = true := hw _ (List.mem_of_getElem? (i := 223) rfl)
theorem wd224 {Z : State} {a0 : Array Value} (hw : ∀ d ∈ tables_1, d.before a0 Z = true) : (Jvm.Cond.methodLink "java/util/ArrayList" (118 : Nat) ({ cls := "java/util/Objects", name := "checkIndex", desc := "(II)I" } : Jvm.MethodName)).before a0 Z = true := hw _ (List.mem_of_getElem? (i := 224) rfl)
theorem wd225 {Z : State} {a0 : Array Value} (hw : ∀ d ∈ tables_1, d.before a0 Z = true) : (Jvm.Cond.static ({ cls := "java/util/Objects", name := "checkIndex", desc := "(II)I" } : Jvm.MethodName)).before a0 Z = true := hw _ (List.mem_of_getElem? (i := 225) rfl)
theorem wd226 {Z : State} {a0 : Array Value} (hw : ∀ d ∈ tables_1, d.before a0 Z = true) : (Jvm.Cond.initialized "java/util/Objects").before a0 Z = true := hw _ (List.mem_of_getElem? (i := 226) rfl)
theorem wd227 {Z : State} {a0 : Array Value} (hw : ∀ d ∈ tables_1, d.before a0 Z = true) : (Jvm.Cond.code ({ cls := "java/util/Objects", name := "checkIndex", desc := "(II)I" } : Jvm.MethodName) jdk_31_method_17_code (2 : Nat) (Option.some Jvm.ClassFile.FieldType.int)).before a0 Z = true := hw _ (List.mem_of_getElem? (i := 227) rfl)
theorem wd228 {Z : State} {a0 : Array Value} (hw : ∀ d ∈ tables_1, d.before a0 Z = true) : (Jvm.Cond.methodLink "java/util/Objects" (105 : Nat) ({ cls := "jdk/internal/util/Preconditions", name := "checkIndex", desc := "(IILjava/util/function/BiFunction;)I" } : Jvm.MethodName)).before a0 Z = true := hw _ (List.mem_of_getElem? (i := 228) rfl)
theorem wd229 {Z : State} {a0 : Array Value} (hw : ∀ d ∈ tables_1, d.before a0 Z = true) : (Jvm.Cond.static ({ cls := "jdk/internal/util/Preconditions", name := "checkIndex", desc := "(IILjava/util/function/BiFunction;)I" } : Jvm.MethodName)).before a0 Z = true := hw _ (List.mem_of_getElem? (i := 229) rfl)
theorem wd230 {Z : State} {a0 : Array Value} (hw : ∀ d ∈ tables_1, d.before a0 Z = true) : (Jvm.Cond.initialized "jdk/internal/util/Preconditions").before a0 Z = true := hw _ (List.mem_of_getElem? (i := 230) rfl)
theorem wd231 {Z : State} {a0 : Array Value} (hw : ∀ d ∈ tables_1, d.before a0 Z = true) : (Jvm.Cond.code ({ cls := "jdk/internal/util/Preconditions", name := "checkIndex", desc := "(IILjava/util/function/BiFunction;)I" } : Jvm.MethodName) jdk_41_method_11_code (3 : Nat) (Option.some Jvm.ClassFile.FieldType.int)).before a0 Z = true := hw _ (List.mem_of_getElem? (i := 231) rfl)
theorem wd232 {Z : State} {a0 : Array Value} (hw : ∀ d ∈ tables_1, d.before a0 Z = true) : (Jvm.Cond.methodLink "java/util/ArrayList" (123 : Nat) ({ cls := "java/util/ArrayList", name := "elementData", desc := "(I)Ljava/lang/Object;" } : Jvm.MethodName)).before a0 Z = true := hw _ (List.mem_of_getElem? (i := 232) rfl)
theorem wd233 {Z : State} {a0 : Array Value} (hw : ∀ d ∈ tables_1, d.before a0 Z = true) : (Jvm.Cond.declares ({ cls := "java/util/ArrayList", name := "elementData", desc := "(I)Ljava/lang/Object;" } : Jvm.MethodName)).before a0 Z = true := hw _ (List.mem_of_getElem? (i := 233) rfl)
theorem wd234 {Z : State} {a0 : Array Value} (hw : ∀ d ∈ tables_1, d.before a0 Z = true) : (Jvm.Cond.instanceMethod ({ cls := "java/util/ArrayList", name := "elementData", desc := "(I)Ljava/lang/Object;" } : Jvm.MethodName)).before a0 Z = true := hw _ (List.mem_of_getElem? (i := 234) rfl)
theorem wd235 {Z : State} {a0 : Array Value} (hw : ∀ d ∈ tables_1, d.before a0 Z = true) : (Jvm.Cond.selects "java/util/ArrayList" ({ cls := "java/util/ArrayList", name := "elementData", desc := "(I)Ljava/lang/Object;" } : Jvm.MethodName) ({ cls := "java/util/ArrayList", name := "elementData", desc := "(I)Ljava/lang/Object;" } : Jvm.MethodName)).before a0 Z = true := hw _ (List.mem_of_getElem? (i := 235) rfl)
theorem wd236 {Z : State} {a0 : Array Value} (hw : ∀ d ∈ tables_1, d.before a0 Z = true) : (Jvm.Cond.code ({ cls := "java/util/ArrayList", name := "elementData", desc := "(I)Ljava/lang/Object;" } : Jvm.MethodName) jdk_38_method_18_code (2 : Nat) (Option.some (Jvm.ClassFile.FieldType.object "java/lang/Object"))).before a0 Z = true := hw _ (List.mem_of_getElem? (i := 236) rfl)
theorem wd237 {Z : State} {a0 : Array Value} (hw : ∀ d ∈ tables_1, d.before a0 Z = true) : (Jvm.Cond.classLink "com/example/recordweave/recordweave/store/KeyIndex" (72 : Nat) "[B").before a0 Z = true := hw _ (List.mem_of_getElem? (i := 237) rfl)
theorem wd238 {Z : State} {a0 : Array Value} (hw : ∀ d ∈ tables_1, d.before a0 Z = true) : (Jvm.Cond.methodLink "com/example/recordweave/recordweave/store/KeyIndex" (74 : Nat) ({ cls := "java/lang/System", name := "arraycopy", desc := "(Ljava/lang/Object;ILjava/lang/Object;II)V" } : Jvm.MethodName)).before a0 Z = true := hw _ (List.mem_of_getElem? (i := 238) rfl)
theorem wd239 {Z : State} {a0 : Array Value} (hw : ∀ d ∈ tables_1, d.before a0 Z = true) : (Jvm.Cond.static ({ cls := "java/lang/System", name := "arraycopy", desc := "(Ljava/lang/Object;ILjava/lang/Object;II)V" } : Jvm.MethodName)).before a0 Z = true := hw _ (List.mem_of_getElem? (i := 239) rfl)
theorem wd240 {Z : State} {a0 : Array Value} (hw : ∀ d ∈ tables_1, d.before a0 Z = true) : (Jvm.Cond.initialized "java/lang/System").before a0 Z = true := hw _ (List.mem_of_getElem? (i := 240) rfl)
theorem wd241 {Z : State} {a0 : Array Value} (hw : ∀ d ∈ tables_1, d.before a0 Z = true) : (Jvm.Cond.native ({ cls := "java/lang/System", name := "arraycopy", desc := "(Ljava/lang/Object;ILjava/lang/Object;II)V" } : Jvm.MethodName)).before a0 Z = true := hw _ (List.mem_of_getElem? (i := 241) rfl)
theorem wd242 {Z : State} {a0 : Array Value} (hw : ∀ d ∈ tables_1, d.before a0 Z = true) : (Jvm.Cond.methodLink "com/example/recordweave/recordweave/store/KeyIndex" (84 : Nat) ({ cls := "com/example/recordweave/recordweave/store/KeyIndex", name := "hold", desc := "(III)V" } : Jvm.MethodName)).before a0 Z = true := hw _ (List.mem_of_getElem? (i := 242) rfl)
theorem wd243 {Z : State} {a0 : Array Value} (hw : ∀ d ∈ tables_1, d.before a0 Z = true) : (Jvm.Cond.instanceMethod ({ cls := "com/example/recordweave/recordweave/store/KeyIndex", name := "hold", desc := "(III)V" } : Jvm.MethodName)).before a0 Z = true := hw _ (List.mem_of_getElem? (i := 243) rfl)
theorem wd244 {Z : State} {a0 : Array Value} (hw : ∀ d ∈ tables_1, d.before a0 Z = true) : (Jvm.Cond.privateMethod ({ cls := "com/example/recordweave/recordweave/store/KeyIndex", name := "hold", desc := "(III)V" } : Jvm.MethodName)).before a0 Z = true := hw _ (List.mem_of_getElem? (i := 244) rfl)
theorem wd245 {Z : State} {a0 : Array Value} (hw : ∀ d ∈ tables_1, d.before a0 Z = true) : (Jvm.Cond.code ({ cls := "com/example/recordweave/recordweave/store/KeyIndex", name := "hold", desc := "(III)V" } : Jvm.MethodName) prog_1_method_5_code (5 : Nat) (Option.none : Option Jvm.ClassFile.FieldType)).before a0 Z = true := hw _ (List.mem_of_getElem? (i := 245) rfl)
theorem wd246 {Z : State} {a0 : Array Value} (hw : ∀ d ∈ tables_1, d.before a0 Z = true) : (Jvm.Cond.fieldLink "com/example/recordweave/recordweave/store/KeyIndex" (97 : Nat) "com/example/recordweave/recordweave/store/KeyIndex" "size" "I").before a0 Z = true := hw _ (List.mem_of_getElem? (i := 246) rfl)
theorem wd247 {Z : State} {a0 : Array Value} (hw : ∀ d ∈ tables_1, d.before a0 Z = true) : (Jvm.Cond.lays "com/example/recordweave/recordweave/store/KeyIndex" "com/example/recordweave/recordweave/store/KeyIndex" "size" "I").before a0 Z = true := hw _ (List.mem_of_getElem? (i := 247) rfl)
theorem wd248 {Z : State} {a0 : Array Value} (hw : ∀ d ∈ tables_1, d.before a0 Z = true) : (Jvm.Cond.methodLink "com/example/recordweave/recordweave/store/KeyIndex" (104 : Nat) ({ cls := "com/example/recordweave/recordweave/store/KeyIndex", name := "place", desc := "(I)V" } : Jvm.MethodName)).before a0 Z = true := hw _ (List.mem_of_getElem? (i := 248) rfl)
theorem wd249 {Z : State} {a0 : Array Value} (hw : ∀ d ∈ tables_1, d.before a0 Z = true) : (Jvm.Cond.instanceMethod ({ cls := "com/example/recordweave/recordweave/store/KeyIndex", name := "place", desc := "(I)V" } : Jvm.MethodName)).before a0 Z = true := hw _ (List.mem_of_getElem? (i := 249) rfl)
theorem wd250 {Z : State} {a0 : Array Value} (hw : ∀ d ∈ tables_1, d.before a0 Z = true) : (Jvm.Cond.privateMethod ({ cls := "com/example/recordweave/recordweave/store/KeyIndex", name := "place", desc := "(I)V" } : Jvm.MethodName)).before a0 Z = true := hw _ (List.mem_of_getElem? (i := 250) rfl)
theorem wd251 {Z : State} {a0 : Array Value} (hw : ∀ d ∈ tables_1, d.before a0 Z = true) : (Jvm.Cond.code ({ cls := "com/example/recordweave/recordweave/store/KeyIndex", name := "place", desc := "(I)V" } : Jvm.MethodName) prog_1_method_6_code (4 : Nat) (Option.none : Option Jvm.ClassFile.FieldType)).before a0 Z = true := hw _ (List.mem_of_getElem? (i := 251) rfl)
theorem wd252 {Z : State} {a0 : Array Value} (hw : ∀ d ∈ tables_1, d.before a0 Z = true) : (Jvm.Cond.methodLink "com/example/recordweave/recordweave/store/KeyIndex" (91 : Nat) ({ cls := "java/util/Arrays", name := "equals", desc := "([BII[BII)Z" } : Jvm.MethodName)).before a0 Z = true := hw _ (List.mem_of_getElem? (i := 252) rfl)
theorem wd253 {Z : State} {a0 : Array Value} (hw : ∀ d ∈ tables_1, d.before a0 Z = true) : (Jvm.Cond.static ({ cls := "java/util/Arrays", name := "equals", desc := "([BII[BII)Z" } : Jvm.MethodName)).before a0 Z = true := hw _ (List.mem_of_getElem? (i := 253) rfl)
theorem wd254 {Z : State} {a0 : Array Value} (hw : ∀ d ∈ tables_1, d.before a0 Z = true) : (Jvm.Cond.initialized "java/util/Arrays").before a0 Z = true := hw _ (List.mem_of_getElem? (i := 254) rfl)
theorem wd255 {Z : State} {a0 : Array Value} (hw : ∀ d ∈ tables_1, d.before a0 Z = true) : (Jvm.Cond.code ({ cls := "java/util/Arrays", name := "equals", desc := "([BII[BII)Z" } : Jvm.MethodName) jdk_65_method_90_code (8 : Nat) (Option.some Jvm.ClassFile.FieldType.boolean)).before a0 Z = true := hw _ (List.mem_of_getElem? (i := 255) rfl)
theorem wd256 {Z : State} {a0 : Array Value} (hw : ∀ d ∈ tables_1, d.before a0 Z = true) : (Jvm.Cond.methodLink "java/util/Arrays" (13 : Nat) ({ cls := "java/util/Arrays", name := "rangeCheck", desc := "(III)V" } : Jvm.MethodName)).before a0 Z = true := hw _ (List.mem_of_getElem? (i := 256) rfl)
theorem wd257 {Z : State} {a0 : Array Value} (hw : ∀ d ∈ tables_1, d.before a0 Z = true) : (Jvm.Cond.static ({ cls := "java/util/Arrays", name := "rangeCheck", desc := "(III)V" } : Jvm.MethodName)).before a0 Z = true := hw _ (List.mem_of_getElem? (i := 257) rfl)
theorem wd258 {Z : State} {a0 : Array Value} (hw : ∀ d ∈ tables_1, d.before a0 Z = true) : (Jvm.Cond.code ({ cls := "java/util/Arrays", name := "rangeCheck", desc := "(III)V" } : Jvm.MethodName) jdk_65_method_30_code (3 : Nat) (Option.none : Option Jvm.ClassFile.FieldType)).before a0 Z = true := hw _ (List.mem_of_getElem? (i := 258) rfl)
theorem wd259 {Z : State} {a0 : Array Value} (hw : ∀ d ∈ tables_1, d.before a0 Z = true) : (Jvm.Cond.methodLink "java/util/Arrays" (275 : Nat) ({ cls := "jdk/internal/util/ArraysSupport", name := "mismatch", desc := "([BI[BII)I" } : Jvm.MethodName)).before a0 Z = true := hw _ (List.mem_of_getElem? (i := 259) rfl)
theorem wd260 {Z : State} {a0 : Array Value} (hw : ∀ d ∈ tables_1, d.before a0 Z = true) : (Jvm.Cond.static ({ cls := "jdk/internal/util/ArraysSupport", name := "mismatch", desc := "([BI[BII)I" } : Jvm.MethodName)).before a0 Z = true := hw _ (List.mem_of_getElem? (i := 260) rfl)
theorem wd261 {Z : State} {a0 : Array Value} (hw : ∀ d ∈ tables_1, d.before a0 Z = true) : (Jvm.Cond.initialized "jdk/internal/util/ArraysSupport").before a0 Z = true := hw _ (List.mem_of_getElem? (i := 261) rfl)
theorem wd262 {Z : State} {a0 : Array Value} (hw : ∀ d ∈ tables_1, d.before a0 Z = true) : (Jvm.Cond.code ({ cls := "jdk/internal/util/ArraysSupport", name := "mismatch", desc := "([BI[BII)I" } : Jvm.MethodName) jdk_48_method_14_code (8 : Nat) (Option.some Jvm.ClassFile.FieldType.int)).before a0 Z = true := hw _ (List.mem_of_getElem? (i := 262) rfl)
theorem wd263 {Z : State} {a0 : Array Value} (hw : ∀ d ∈ tables_1, d.before a0 Z = true) : (Jvm.Cond.methodLink "com/example/recordweave/recordweave/store/KeyIndexFileOfPinLaw" (40 : Nat) ({ cls := "java/lang/String", name := "equals", desc := "(Ljava/lang/Object;)Z" } : Jvm.MethodName)).before a0 Z = true := hw _ (List.mem_of_getElem? (i := 263) rfl)
theorem wd264 {Z : State} {a0 : Array Value} (hw : ∀ d ∈ tables_1, d.before a0 Z = true) : (Jvm.Cond.declares ({ cls := "java/lang/String", name := "equals", desc := "(Ljava/lang/Object;)Z" } : Jvm.MethodName)).before a0 Z = true := hw _ (List.mem_of_getElem? (i := 264) rfl)
theorem wd265 {Z : State} {a0 : Array Value} (hw : ∀ d ∈ tables_1, d.before a0 Z = true) : (Jvm.Cond.instanceMethod ({ cls := "java/lang/String", name := "equals", desc := "(Ljava/lang/Object;)Z" } : Jvm.MethodName)).before a0 Z = true := hw _ (List.mem_of_getElem? (i := 265) rfl)
theorem wd266 {Z : State} {a0 : Array Value} (hw : ∀ d ∈ tables_1, d.before a0 Z = true) : (Jvm.Cond.selects "java/lang/String" ({ cls := "java/lang/String", name := "equals", desc := "(Ljava/lang/Object;)Z" } : Jvm.MethodName) ({ cls := "java/lang/String", name := "equals", desc := "(Ljava/lang/Object;)Z" } : Jvm.MethodName)).before a0 Z = true := hw _ (List.mem_of_getElem? (i := 266) rfl)
theorem wd267 {Z : State} {a0 : Array Value} (hw : ∀ d ∈ tables_1, d.before a0 Z = true) : (Jvm.Cond.code ({ cls := "java/lang/String", name := "equals", desc := "(Ljava/lang/Object;)Z" } : Jvm.MethodName) jdk_42_method_66_code (3 : Nat) (Option.some Jvm.ClassFile.FieldType.boolean)).before a0 Z = true := hw _ (List.mem_of_getElem? (i := 267) rfl)
theorem wd268 {Z : State} {a0 : Array Value} (hw : ∀ d ∈ tables_1, d.before a0 Z = true) : (Jvm.Cond.arrayClass Jvm.ClassFile.FieldType.char).before a0 Z = true := hw _ (List.mem_of_getElem? (i := 268) rfl)
theorem wd269 {Z : State} {a0 : Array Value} (hw : ∀ d ∈ tables_1, d.before a0 Z = true) : (Jvm.Cond.classLink "com/example/recordweave/recordweave/store/KeyIndexFileOfPinLaw" (10 : Nat) "java/lang/String").before a0 Z = true := hw _ (List.mem_of_getElem? (i := 269) rfl)
theorem wd270 {Z : State} {a0 : Array Value} (hw : ∀ d ∈ tables_1, d.before a0 Z = true) : (Jvm.Cond.methodLink "com/example/recordweave/recordweave/store/KeyIndexFileOfPinLaw" (15 : Nat) ({ cls := "java/lang/String", name := "<init>", desc := "([C)V" } : Jvm.MethodName)).before a0 Z = true := hw _ (List.mem_of_getElem? (i := 270) rfl)
theorem wd271 {Z : State} {a0 : Array Value} (hw : ∀ d ∈ tables_1, d.before a0 Z = true) : (Jvm.Cond.instanceMethod ({ cls := "java/lang/String", name := "<init>", desc := "([C)V" } : Jvm.MethodName)).before a0 Z = true := hw _ (List.mem_of_getElem? (i := 271) rfl)
theorem wd272 {Z : State} {a0 : Array Value} (hw : ∀ d ∈ tables_1, d.before a0 Z = true) : (Jvm.Cond.code ({ cls := "java/lang/String", name := "<init>", desc := "([C)V" } : Jvm.MethodName) jdk_42_method_3_code (2 : Nat) (Option.none : Option Jvm.ClassFile.FieldType)).before a0 Z = true := hw _ (List.mem_of_getElem? (i := 272) rfl)
theorem wd273 {Z : State} {a0 : Array Value} (hw : ∀ d ∈ tables_1, d.before a0 Z = true) : (Jvm.Cond.methodLink "java/lang/String" (27 : Nat) ({ cls := "java/lang/String", name := "<init>", desc := "([CIILjava/lang/Void;)V" } : Jvm.MethodName)).before a0 Z = true := hw _ (List.mem_of_getElem? (i := 273) rfl)
theorem wd274 {Z : State} {a0 : Array Value} (hw : ∀ d ∈ tables_1, d.before a0 Z = true) : (Jvm.Cond.instanceMethod ({ cls := "java/lang/String", name := "<init>", desc := "([CIILjava/lang/Void;)V" } : Jvm.MethodName)).before a0 Z = true := hw _ (List.mem_of_getElem? (i := 274) rfl)
theorem wd275 {Z : State} {a0 : Array Value} (hw : ∀ d ∈ tables_1, d.before a0 Z = true) : (Jvm.Cond.code ({ cls := "java/lang/String", name := "<init>", desc := "([CIILjava/lang/Void;)V" } : Jvm.MethodName) jdk_42_method_149_code (6 : Nat) (Option.none : Option Jvm.ClassFile.FieldType)).before a0 Z = true := hw _ (List.mem_of_getElem? (i := 275) rfl)
theorem wd276 {Z : State} {a0 : Array Value} (hw : ∀ d ∈ tables_1, d.before a0 Z = true) : (Jvm.Cond.methodLink "java/lang/String" (1 : Nat) ({ cls := "java/lang/Object", name := "<init>", desc := "()V" } : Jvm.MethodName)).before a0 Z = true := hw _ (List.mem_of_getElem? (i := 276) rfl)
theorem wd277 {Z : State} {a0 : Array Value} (hw : ∀ d ∈ tables_1, d.before a0 Z = true) : (Jvm.Cond.methodLink "java/lang/String" (177 : Nat) ({ cls := "java/lang/StringUTF16", name := "compress", desc := "([CII)[B" } : Jvm.MethodName)).before a0 Z = true := hw _ (List.mem_of_getElem? (i := 277) rfl)
theorem wd278 {Z : State} {a0 : Array Value} (hw : ∀ d ∈ tables_1, d.before a0 Z = true) : (Jvm.Cond.static ({ cls := "java/lang/StringUTF16", name := "compress", desc := "([CII)[B" } : Jvm.MethodName)).before a0 Z = true := hw _ (List.mem_of_getElem? (i := 278) rfl)
theorem wd279 {Z : State} {a0 : Array Value} (hw : ∀ d ∈ tables_1, d.before a0 Z = true) : (Jvm.Cond.initialized "java/lang/StringUTF16").before a0 Z = true := hw _ (List.mem_of_getElem? (i := 279) rfl)
theorem wd280 {Z : State} {a0 : Array Value} (hw : ∀ d ∈ tables_1, d.before a0 Z = true) : (Jvm.Cond.code ({ cls := "java/lang/StringUTF16", name := "compress", desc := "([CII)[B" } : Jvm.MethodName) jdk_52_method_16_code (6 : Nat) (Option.some (Jvm.ClassFile.FieldType.array Jvm.ClassFile.FieldType.byte))).before a0 Z = true := hw _ (List.mem_of_getElem? (i := 280) rfl)
theorem wd281 {Z : State} {a0 : Array Value} (hw : ∀ d ∈ tables_1, d.before a0 Z = true) : (Jvm.Cond.methodLink "java/lang/StringUTF16" (115 : Nat) ({ cls := "java/lang/StringUTF16", name := "compress", desc := "([CI[BII)I" } : Jvm.MethodName)).before a0 Z = true := hw _ (List.mem_of_getElem? (i := 281) rfl)
theorem wd282 {Z : State} {a0 : Array Value} (hw : ∀ d ∈ tables_1, d.before a0 Z = true) : (Jvm.Cond.static ({ cls := "java/lang/StringUTF16", name := "compress", desc := "([CI[BII)I" } : Jvm.MethodName)).before a0 Z = true := hw _ (List.mem_of_getElem? (i := 282) rfl)
theorem wd283 {Z : State} {a0 : Array Value} (hw : ∀ d ∈ tables_1, d.before a0 Z = true) : (Jvm.Cond.code ({ cls := "java/lang/StringUTF16", name := "compress", desc := "([CI[BII)I" } : Jvm.MethodName) jdk_52_method_21_code (7 : Nat) (Option.some Jvm.ClassFile.FieldType.int)).before a0 Z = true := hw _ (List.mem_of_getElem? (i := 283) rfl)
theorem wd284 {Z : State} {a0 : Array Value} (hw : ∀ d ∈ tables_1, d.before a0 Z = true) : (Jvm.Cond.methodLink "java/lang/String" (47 : Nat) ({ cls := "java/lang/StringUTF16", name := "coderFromArrayLen", desc := "([BI)B" } : Jvm.MethodName)).before a0 Z = true := hw _ (List.mem_of_getElem? (i := 284) rfl)
theorem wd285 {Z : State} {a0 : Array Value} (hw : ∀ d ∈ tables_1, d.before a0 Z = true) : (Jvm.Cond.static ({ cls := "java/lang/StringUTF16", name := "coderFromArrayLen", desc := "([BI)B" } : Jvm.MethodName)).before a0 Z = true := hw _ (List.mem_of_getElem? (i := 285) rfl)
theorem wd286 {Z : State} {a0 : Array Value} (hw : ∀ d ∈ tables_1, d.before a0 Z = true) : (Jvm.Cond.code ({ cls := "java/lang/StringUTF16", name := "coderFromArrayLen", desc := "([BI)B" } : Jvm.MethodName) jdk_52_method_15_code (2 : Nat) (Option.some Jvm.ClassFile.FieldType.byte)).before a0 Z = true := hw _ (List.mem_of_getElem? (i := 286) rfl)
theorem wd287 {Z : State} {a0 : Array Value} (hw : ∀ d ∈ tables_1, d.before a0 Z = true) : (Jvm.Cond.methodLink "com/example/recordweave/recordweave/store/KeyIndexFileOfPinLaw" (9 : Nat) ({ cls := "java/lang/String", name := "valueOf", desc := "(C)Ljava/lang/String;" } : Jvm.MethodName)).before a0 Z = true := hw _ (List.mem_of_getElem? (i := 287) rfl)
theorem wd288 {Z : State} {a0 : Array Value} (hw : ∀ d ∈ tables_1, d.before a0 Z = true) : (Jvm.Cond.static ({ cls := "java/lang/String", name := "valueOf", desc := "(C)Ljava/lang/String;" } : Jvm.MethodName)).before a0 Z = true := hw _ (List.mem_of_getElem? (i := 288) rfl)
theorem wd289 {Z : State} {a0 : Array Value} (hw : ∀ d ∈ tables_1, d.before a0 Z = true) : (Jvm.Cond.code ({ cls := "java/lang/String", name := "valueOf", desc := "(C)Ljava/lang/String;" } : Jvm.MethodName) jdk_42_method_139_code (1 : Nat) (Option.some (Jvm.ClassFile.FieldType.object "java/lang/String"))).before a0 Z = true := hw _ (List.mem_of_getElem? (i := 289) rfl)
theorem wd290 {Z : State} {a0 : Array Value} (hw : ∀ d ∈ tables_1, d.before a0 Z = true) : (Jvm.Cond.methodLink "java/lang/String" (1015 : Nat) ({ cls := "java/lang/StringLatin1", name := "canEncode", desc := "(C)Z" } : Jvm.MethodName)).before a0 Z = true := hw _ (List.mem_of_getElem? (i := 290) rfl)
theorem wd291 {Z : State} {a0 : Array Value} (hw : ∀ d ∈ tables_1, d.before a0 Z = true) : (Jvm.Cond.static ({ cls := "java/lang/StringLatin1", name := "canEncode", desc := "(C)Z" } : Jvm.MethodName)).before a0 Z = true := hw _ (List.mem_of_getElem? (i := 291) rfl)
theorem wd292 {Z : State} {a0 : Array Value} (hw : ∀ d ∈ tables_1, d.before a0 Z = true) : (Jvm.Cond.initialized "java/lang/StringLatin1").before a0 Z = true := hw _ (List.mem_of_getElem? (i := 292) rfl)
theorem wd293 {Z : State} {a0 : Array Value} (hw : ∀ d ∈ tables_1, d.before a0 Z = true) : (Jvm.Cond.code ({ cls := "java/lang/StringLatin1", name := "canEncode", desc := "(C)Z" } : Jvm.MethodName) jdk_43_method_3_code (1 : Nat) (Option.some Jvm.ClassFile.FieldType.boolean)).before a0 Z = true := hw _ (List.mem_of_getElem? (i := 293) rfl)
theorem wd294 {Z : State} {a0 : Array Value} (hw : ∀ d ∈ tables_1, d.before a0 Z = true) : (Jvm.Cond.classLink "java/lang/String" (10 : Nat) "java/lang/String").before a0 Z = true := hw _ (List.mem_of_getElem? (i := 294) rfl)
theorem wd295 {Z : State} {a0 : Array Value} (hw : ∀ d ∈ tables_1, d.before a0 Z = true) : (Jvm.Cond.methodLink "java/lang/String" (1018 : Nat) ({ cls := "java/lang/StringLatin1", name := "toBytes", desc := "(C)[B" } : Jvm.MethodName)).before a0 Z = true := hw _ (List.mem_of_getElem? (i := 295) rfl)
theorem wd296 {Z : State} {a0 : Array Value} (hw : ∀ d ∈ tables_1, d.before a0 Z = true) : (Jvm.Cond.static ({ cls := "java/lang/StringLatin1", name := "toBytes", desc := "(C)[B" } : Jvm.MethodName)).before a0 Z = true := hw _ (List.mem_of_getElem? (i := 296) rfl)
theorem wd297 {Z : State} {a0 : Array Value} (hw : ∀ d ∈ tables_1, d.before a0 Z = true) : (Jvm.Cond.code ({ cls := "java/lang/StringLatin1", name := "toBytes", desc := "(C)[B" } : Jvm.MethodName) jdk_43_method_46_code (1 : Nat) (Option.some (Jvm.ClassFile.FieldType.array Jvm.ClassFile.FieldType.byte))).before a0 Z = true := hw _ (List.mem_of_getElem? (i := 297) rfl)
theorem wd298 {Z : State} {a0 : Array Value} (hw : ∀ d ∈ tables_1, d.before a0 Z = true) : (Jvm.Cond.methodLink "java/lang/String" (209 : Nat) ({ cls := "java/lang/String", name := "<init>", desc := "([BB)V" } : Jvm.MethodName)).before a0 Z = true := hw _ (List.mem_of_getElem? (i := 298) rfl)
theorem wd299 {Z : State} {a0 : Array Value} (hw : ∀ d ∈ tables_1, d.before a0 Z = true) : (Jvm.Cond.instanceMethod ({ cls := "java/lang/String", name := "<init>", desc := "([BB)V" } : Jvm.MethodName)).before a0 Z = true := hw _ (List.mem_of_getElem? (i := 299) rfl)
theorem wd300 {Z : State} {a0 : Array Value} (hw : ∀ d ∈ tables_1, d.before a0 Z = true) : (Jvm.Cond.code ({ cls := "java/lang/String", name := "<init>", desc := "([BB)V" } : Jvm.MethodName) jdk_42_method_151_code (3 : Nat) (Option.none : Option Jvm.ClassFile.FieldType)).before a0 Z = true := hw _ (List.mem_of_getElem? (i := 300) rfl)
theorem wd301 {Z : State} {a0 : Array Value} (hw : ∀ d ∈ tables_1, d.before a0 Z = true) : (Jvm.Cond.methodLink "java/lang/String" (60 : Nat) ({ cls := "java/lang/StringUTF16", name := "newBytesFor", desc := "(I)[B" } : Jvm.MethodName)).before a0 Z = true := hw _ (List.mem_of_getElem? (i := 301) rfl)
theorem wd302 {Z : State} {a0 : Array Value} (hw : ∀ d ∈ tables_1, d.before a0 Z = true) : (Jvm.Cond.static ({ cls := "java/lang/StringUTF16", name := "newBytesFor", desc := "(I)[B" } : Jvm.MethodName)).before a0 Z = true := hw _ (List.mem_of_getElem? (i := 302) rfl)
theorem wd303 {Z : State} {a0 : Array Value} (hw : ∀ d ∈ tables_1, d.before a0 Z = true) : (Jvm.Cond.code ({ cls := "java/lang/StringUTF16", name := "newBytesFor", desc := "(I)[B" } : Jvm.MethodName) jdk_52_method_2_code (1 : Nat) (Option.some (Jvm.ClassFile.FieldType.array Jvm.ClassFile.FieldType.byte))).before a0 Z = true := hw _ (List.mem_of_getElem? (i := 303) rfl)
theorem wd304 {Z : State} {a0 : Array Value} (hw : ∀ d ∈ tables_1, d.before a0 Z = true) : (Jvm.Cond.methodLink "java/lang/StringUTF16" (11 : Nat) ({ cls := "java/lang/StringUTF16", name := "newBytesLength", desc := "(I)I" } : Jvm.MethodName)).before a0 Z = true := hw _ (List.mem_of_getElem? (i := 304) rfl)
theorem wd305 {Z : State} {a0 : Array Value} (hw : ∀ d ∈ tables_1, d.before a0 Z = true) : (Jvm.Cond.static ({ cls := "java/lang/StringUTF16", name := "newBytesLength", desc := "(I)I" } : Jvm.MethodName)).before a0 Z = true := hw _ (List.mem_of_getElem? (i := 305) rfl)
theorem wd306 {Z : State} {a0 : Array Value} (hw : ∀ d ∈ tables_1, d.before a0 Z = true) : (Jvm.Cond.code ({ cls := "java/lang/StringUTF16", name := "newBytesLength", desc := "(I)I" } : Jvm.MethodName) jdk_52_method_3_code (1 : Nat) (Option.some Jvm.ClassFile.FieldType.int)).before a0 Z = true := hw _ (List.mem_of_getElem? (i := 306) rfl)
theorem wd307 {Z : State} {a0 : Array Value} (hw : ∀ d ∈ tables_1, d.before a0 Z = true) : (Jvm.Cond.constant "java/lang/StringUTF16" (20 : Nat) (1073741823 : Int32)).before a0 Z = true := hw _ (List.mem_of_getElem? (i := 307) rfl)
theorem wd308 {Z : State} {a0 : Array Value} (hw : ∀ d ∈ tables_1, d.before a0 Z = true) : (Jvm.Cond.methodLink "java/lang/String" (102 : Nat) ({ cls := "java/util/Arrays", name := "copyOf", desc := "([BI)[B" } : Jvm.MethodName)).before a0 Z = true := hw _ (List.mem_of_getElem? (i := 308) rfl)
theorem wd309 {Z : State} {a0 : Array Value} (hw : ∀ d ∈ tables_1, d.before a0 Z = true) : (Jvm.Cond.static ({ cls := "java/util/Arrays", name := "copyOf", desc := "([BI)[B" } : Jvm.MethodName)).before a0 Z = true := hw _ (List.mem_of_getElem? (i := 309) rfl)
theorem wd310 {Z : State} {a0 : Array Value} (hw : ∀ d ∈ tables_1, d.before a0 Z = true) : (Jvm.Cond.code ({ cls := "java/util/Arrays", name := "copyOf", desc := "([BI)[B" } : Jvm.MethodName) jdk_65_method_121_code (3 : Nat) (Option.some (Jvm.ClassFile.FieldType.array Jvm.ClassFile.FieldType.byte))).before a0 Z = true := hw _ (List.mem_of_getElem? (i := 310) rfl)
theorem wd311 {Z : State} {a0 : Array Value} (hw : ∀ d ∈ tables_1, d.before a0 Z = true) : (Jvm.Cond.methodLink "java/util/Arrays" (304 : Nat) ({ cls := "java/lang/Math", name := "min", desc := "(II)I" } : Jvm.MethodName)).before a0 Z = true := hw _ (List.mem_of_getElem? (i := 311) rfl)
theorem wd312 {Z : State} {a0 : Array Value} (hw : ∀ d ∈ tables_1, d.before a0 Z = true) : (Jvm.Cond.static ({ cls := "java/lang/Math", name := "min", desc := "(II)I" } : Jvm.MethodName)).before a0 Z = true := hw _ (List.mem_of_getElem? (i := 312) rfl)
theorem wd313 {Z : State} {a0 : Array Value} (hw : ∀ d ∈ tables_1, d.before a0 Z = true) : (Jvm.Cond.code ({ cls := "java/lang/Math", name := "min", desc := "(II)I" } : Jvm.MethodName) jdk_29_method_69_code (2 : Nat) (Option.some Jvm.ClassFile.FieldType.int)).before a0 Z = true := hw _ (List.mem_of_getElem? (i := 313) rfl)
theorem wd314 {Z : State} {a0 : Array Value} (hw : ∀ d ∈ tables_1, d.before a0 Z = true) : (Jvm.Cond.methodLink "java/util/Arrays" (150 : Nat) ({ cls := "java/lang/System", name := "arraycopy", desc := "(Ljava/lang/Object;ILjava/lang/Object;II)V" } : Jvm.MethodName)).before a0 Z = true := hw _ (List.mem_of_getElem? (i := 314) rfl)
theorem wd315 {Z : State} {a0 : Array Value} (hw : ∀ d ∈ tables_1, d.before a0 Z = true) : (Jvm.Cond.methodLink "java/lang/String" (541 : Nat) ({ cls := "java/lang/StringLatin1", name := "equals", desc := "([B[B)Z" } : Jvm.MethodName)).before a0 Z = true := hw _ (List.mem_of_getElem? (i := 315) rfl)
theorem wd316 {Z : State} {a0 : Array Value} (hw : ∀ d ∈ tables_1, d.before a0 Z = true) : (Jvm.Cond.static ({ cls := "java/lang/StringLatin1", name := "equals", desc := "([B[B)Z" } : Jvm.MethodName)).before a0 Z = true := hw _ (List.mem_of_getElem? (i := 316) rfl)
theorem wd317 {Z : State} {a0 : Array Value} (hw : ∀ d ∈ tables_1, d.before a0 Z = true) : (Jvm.Cond.code ({ cls := "java/lang/StringLatin1", name := "equals", desc := "([B[B)Z" } : Jvm.MethodName) jdk_43_method_13_code (3 : Nat) (Option.some Jvm.ClassFile.FieldType.boolean)).before a0 Z = true := hw _ (List.mem_of_getElem? (i := 317) rfl)
theorem d1_0 : decode method_2_code 0 = .ok (.iload_n 0, 1) := by decide +kernel
theorem d1_1 : decode method_2_code 1 = .ok (.sipush 255, 3) := by decide +kernel
theorem d1_4 : decode method_2_code 4 = .ok (.iand, 1) := by decide +kernel
theorem d1_5 : decode method_2_code 5 = .ok (.i2c, 1) := by decide +kernel
theorem d1_6 : decode method_2_code 6 = .ok (.istore_n 1, 1) := by decide +kernel
theorem d1_7 : decode method_2_code 7 = .ok (.iload_n 0, 1) := by decide +kernel
theorem d1_8 : decode method_2_code 8 = .ok (.bipush 8, 2) := by decide +kernel
theorem d1_10 : decode method_2_code 10 = .ok (.iushr, 1) := by decide +kernel
theorem d1_11 : decode method_2_code 11 = .ok (.sipush 255, 3) := by decide +kernel
theorem d1_14 : decode method_2_code 14 = .ok (.iand, 1) := by decide +kernel
theorem d1_15 : decode method_2_code 15 = .ok (.i2c, 1) := by decide +kernel
theorem d1_16 : decode method_2_code 16 = .ok (.istore_n 2, 1) := by decide +kernel
theorem d1_17 : decode method_2_code 17 = .ok (.iload_n 0, 1) := by decide +kernel
theorem d1_18 : decode method_2_code 18 = .ok (.bipush 16, 2) := by decide +kernel
theorem d1_20 : decode method_2_code 20 = .ok (.iushr, 1) := by decide +kernel
theorem d1_21 : decode method_2_code 21 = .ok (.iconst 3, 1) := by decide +kernel
theorem d1_22 : decode method_2_code 22 = .ok (.iand, 1) := by decide +kernel
theorem d1_23 : decode method_2_code 23 = .ok (.iconst 3, 1) := by decide +kernel
theorem d1_24 : decode method_2_code 24 = .ok (.irem, 1) := by decide +kernel
theorem d1_25 : decode method_2_code 25 = .ok (.istore_n 3, 1) := by decide +kernel
theorem d1_26 : decode method_2_code 26 = .ok (.iload_n 3, 1) := by decide +kernel
theorem d1_27 : decode method_2_code 27 = .ok (.ifCond .ne 6, 3) := by decide +kernel
theorem d1_30 : decode method_2_code 30 = .ok (.ldc 7, 2) := by decide +kernel
theorem d1_32 : decode method_2_code 32 = .ok (.areturn, 1) := by decide +kernel
theorem d1_33 : decode method_2_code 33 = .ok (.iload_n 3, 1) := by decide +kernel
theorem d1_34 : decode method_2_code 34 = .ok (.iconst 1, 1) := by decide +kernel
theorem d1_35 : decode method_2_code 35 = .ok (.if_icmp .ne 8, 3) := by decide +kernel
theorem d1_38 : decode method_2_code 38 = .ok (.iload_n 1, 1) := by decide +kernel
theorem d1_39 : decode method_2_code 39 = .ok (.invokestatic 9, 3) := by decide +kernel
theorem d1_42 : decode method_2_code 42 = .ok (.areturn, 1) := by decide +kernel
theorem d1_43 : decode method_2_code 43 = .ok (.iconst 2, 1) := by decide +kernel
theorem d1_44 : decode method_2_code 44 = .ok (.newarray .char, 2) := by decide +kernel
theorem d1_46 : decode method_2_code 46 = .ok (.astore 4, 2) := by decide +kernel
theorem d1_48 : decode method_2_code 48 = .ok (.aload 4, 2) := by decide +kernel
theorem d1_50 : decode method_2_code 50 = .ok (.iconst 0, 1) := by decide +kernel
theorem d1_51 : decode method_2_code 51 = .ok (.iload_n 1, 1) := by decide +kernel
theorem d1_52 : decode method_2_code 52 = .ok (.castore, 1) := by decide +kernel
theorem d1_53 : decode method_2_code 53 = .ok (.aload 4, 2) := by decide +kernel
theorem d1_55 : decode method_2_code 55 = .ok (.iconst 1, 1) := by decide +kernel
theorem d1_56 : decode method_2_code 56 = .ok (.iload_n 2, 1) := by decide +kernel
theorem d1_57 : decode method_2_code 57 = .ok (.castore, 1) := by decide +kernel
theorem d1_58 : decode method_2_code 58 = .ok (.new 10, 3) := by decide +kernel
theorem d1_61 : decode method_2_code 61 = .ok (.dup, 1) := by decide +kernel
theorem d1_62 : decode method_2_code 62 = .ok (.aload 4, 2) := by decide +kernel
theorem d1_64 : decode method_2_code 64 = .ok (.invokespecial 15, 3) := by decide +kernel
theorem d1_67 : decode method_2_code 67 = .ok (.areturn, 1) := by decide +kernel
theorem d2_0 : decode jdk_38_method_2_code 0 = .ok (.aload_n 0, 1) := by decide +kernel
theorem d2_1 : decode jdk_38_method_2_code 1 = .ok (.invokespecial 1, 3) := by decide +kernel
theorem d2_4 : decode jdk_38_method_2_code 4 = .ok (.aload_n 0, 1) := by decide +kernel
theorem d2_5 : decode jdk_38_method_2_code 5 = .ok (.getstatic 39, 3) := by decide +kernel
theorem d2_8 : decode jdk_38_method_2_code 8 = .ok (.putfield 9, 3) := by decide +kernel
theorem d2_11 : decode jdk_38_method_2_code 11 = .ok (.return_, 1) := by decide +kernel
theorem d3_0 : decode jdk_39_method_1_code 0 = .ok (.aload_n 0, 1) := by decide +kernel
theorem d3_1 : decode jdk_39_method_1_code 1 = .ok (.invokespecial 1, 3) := by decide +kernel
theorem d3_4 : decode jdk_39_method_1_code 4 = .ok (.aload_n 0, 1) := by decide +kernel
theorem d3_5 : decode jdk_39_method_1_code 5 = .ok (.iconst 0, 1) := by decide +kernel
theorem d3_6 : decode jdk_39_method_1_code 6 = .ok (.putfield 7, 3) := by decide +kernel
theorem d3_9 : decode jdk_39_method_1_code 9 = .ok (.return_, 1) := by decide +kernel
theorem d4_0 : decode jdk_22_method_1_code 0 = .ok (.aload_n 0, 1) := by decide +kernel
theorem d4_1 : decode jdk_22_method_1_code 1 = .ok (.invokespecial 1, 3) := by decide +kernel
theorem d4_4 : decode jdk_22_method_1_code 4 = .ok (.return_, 1) := by decide +kernel
theorem d6_0 : decode jdk_38_method_25_code 0 = .ok (.aload_n 0, 1) := by decide +kernel
theorem d6_1 : decode jdk_38_method_25_code 1 = .ok (.dup, 1) := by decide +kernel
theorem d6_2 : decode jdk_38_method_25_code 2 = .ok (.getfield 63, 3) := by decide +kernel
theorem d6_5 : decode jdk_38_method_25_code 5 = .ok (.iconst 1, 1) := by decide +kernel
theorem d6_6 : decode jdk_38_method_25_code 6 = .ok (.iadd, 1) := by decide +kernel
theorem d6_7 : decode jdk_38_method_25_code 7 = .ok (.putfield 63, 3) := by decide +kernel
theorem d6_10 : decode jdk_38_method_25_code 10 = .ok (.aload_n 0, 1) := by decide +kernel
theorem d6_11 : decode jdk_38_method_25_code 11 = .ok (.aload_n 1, 1) := by decide +kernel
theorem d6_12 : decode jdk_38_method_25_code 12 = .ok (.aload_n 0, 1) := by decide +kernel
theorem d6_13 : decode jdk_38_method_25_code 13 = .ok (.getfield 9, 3) := by decide +kernel
theorem d6_16 : decode jdk_38_method_25_code 16 = .ok (.aload_n 0, 1) := by decide +kernel
theorem d6_17 : decode jdk_38_method_25_code 17 = .ok (.getfield 48, 3) := by decide +kernel
theorem d6_20 : decode jdk_38_method_25_code 20 = .ok (.invokevirtual 131, 3) := by decide +kernel
theorem d6_23 : decode jdk_38_method_25_code 23 = .ok (.iconst 1, 1) := by decide +kernel
theorem d6_24 : decode jdk_38_method_25_code 24 = .ok (.ireturn, 1) := by decide +kernel
theorem d7_0 : decode jdk_38_method_24_code 0 = .ok (.iload_n 3, 1) := by decide +kernel
theorem d7_1 : decode jdk_38_method_24_code 1 = .ok (.aload_n 2, 1) := by decide +kernel
theorem d7_2 : decode jdk_38_method_24_code 2 = .ok (.arraylength, 1) := by decide +kernel
theorem d7_3 : decode jdk_38_method_24_code 3 = .ok (.if_icmp .ne 8, 3) := by decide +kernel
theorem d7_6 : decode jdk_38_method_24_code 6 = .ok (.aload_n 0, 1) := by decide +kernel
theorem d7_7 : decode jdk_38_method_24_code 7 = .ok (.invokevirtual 129, 3) := by decide +kernel
theorem d7_10 : decode jdk_38_method_24_code 10 = .ok (.astore_n 2, 1) := by decide +kernel
theorem d7_11 : decode jdk_38_method_24_code 11 = .ok (.aload_n 2, 1) := by decide +kernel
theorem d7_12 : decode jdk_38_method_24_code 12 = .ok (.iload_n 3, 1) := by decide +kernel
theorem d7_13 : decode jdk_38_method_24_code 13 = .ok (.aload_n 1, 1) := by decide +kernel
theorem d7_14 : decode jdk_38_method_24_code 14 = .ok (.aastore, 1) := by decide +kernel
theorem d7_15 : decode jdk_38_method_24_code 15 = .ok (.aload_n 0, 1) := by decide +kernel
theorem d7_16 : decode jdk_38_method_24_code 16 = .ok (.iload_n 3, 1) := by decide +kernel
theorem d7_17 : decode jdk_38_method_24_code 17 = .ok (.iconst 1, 1) := by decide +kernel
theorem d7_18 : decode jdk_38_method_24_code 18 = .ok (.iadd, 1) := by decide +kernel
theorem d7_19 : decode jdk_38_method_24_code 19 = .ok (.putfield 48, 3) := by decide +kernel
theorem d7_22 : decode jdk_38_method_24_code 22 = .ok (.return_, 1) := by decide +kernel
theorem d8_0 : decode jdk_38_method_7_code 0 = .ok (.aload_n 0, 1) := by decide +kernel
theorem d8_1 : decode jdk_38_method_7_code 1 = .ok (.aload_n 0, 1) := by decide +kernel
theorem d8_2 : decode jdk_38_method_7_code 2 = .ok (.getfield 48, 3) := by decide +kernel
theorem d8_5 : decode jdk_38_method_7_code 5 = .ok (.iconst 1, 1) := by decide +kernel
theorem d8_6 : decode jdk_38_method_7_code 6 = .ok (.iadd, 1) := by decide +kernel
theorem d8_7 : decode jdk_38_method_7_code 7 = .ok (.invokevirtual 69, 3) := by decide +kernel
theorem d8_10 : decode jdk_38_method_7_code 10 = .ok (.areturn, 1) := by decide +kernel
theorem d9_0 : decode jdk_38_method_6_code 0 = .ok (.aload_n 0, 1) := by decide +kernel
theorem d9_1 : decode jdk_38_method_6_code 1 = .ok (.getfield 9, 3) := by decide +kernel
theorem d9_4 : decode jdk_38_method_6_code 4 = .ok (.arraylength, 1) := by decide +kernel
theorem d9_5 : decode jdk_38_method_6_code 5 = .ok (.istore_n 2, 1) := by decide +kernel
theorem d9_6 : decode jdk_38_method_6_code 6 = .ok (.iload_n 2, 1) := by decide +kernel
theorem d9_7 : decode jdk_38_method_6_code 7 = .ok (.ifCond .gt 13, 3) := by decide +kernel
theorem d9_10 : decode jdk_38_method_6_code 10 = .ok (.aload_n 0, 1) := by decide +kernel
theorem d9_11 : decode jdk_38_method_6_code 11 = .ok (.getfield 9, 3) := by decide +kernel
theorem d9_14 : decode jdk_38_method_6_code 14 = .ok (.getstatic 39, 3) := by decide +kernel
theorem d9_17 : decode jdk_38_method_6_code 17 = .ok (.if_acmp .eq 28, 3) := by decide +kernel
theorem d9_45 : decode jdk_38_method_6_code 45 = .ok (.aload_n 0, 1) := by decide +kernel
theorem d9_46 : decode jdk_38_method_6_code 46 = .ok (.bipush 10, 2) := by decide +kernel
theorem d9_48 : decode jdk_38_method_6_code 48 = .ok (.iload_n 1, 1) := by decide +kernel
theorem d9_49 : decode jdk_38_method_6_code 49 = .ok (.invokestatic 79, 3) := by decide +kernel
theorem d9_52 : decode jdk_38_method_6_code 52 = .ok (.anewarray 7, 3) := by decide +kernel
theorem d9_55 : decode jdk_38_method_6_code 55 = .ok (.dup_x1, 1) := by decide +kernel
theorem d9_56 : decode jdk_38_method_6_code 56 = .ok (.putfield 9, 3) := by decide +kernel
theorem d9_59 : decode jdk_38_method_6_code 59 = .ok (.areturn, 1) := by decide +kernel
theorem d10_0 : decode jdk_29_method_65_code 0 = .ok (.iload_n 0, 1) := by decide +kernel
theorem d10_1 : decode jdk_29_method_65_code 1 = .ok (.iload_n 1, 1) := by decide +kernel
theorem d10_2 : decode jdk_29_method_65_code 2 = .ok (.if_icmp .lt 7, 3) := by decide +kernel
theorem d10_5 : decode jdk_29_method_65_code 5 = .ok (.iload_n 0, 1) := by decide +kernel
theorem d10_6 : decode jdk_29_method_65_code 6 = .ok (.goto 4, 3) := by decide +kernel
theorem d10_10 : decode jdk_29_method_65_code 10 = .ok (.ireturn, 1) := by decide +kernel
theorem d11_0 : decode prog_1_method_1_code 0 = .ok (.aload_n 0, 1) := by decide +kernel
theorem d11_1 : decode prog_1_method_1_code 1 = .ok (.invokespecial 1, 3) := by decide +kernel
theorem d11_4 : decode prog_1_method_1_code 4 = .ok (.aload_n 0, 1) := by decide +kernel
theorem d11_5 : decode prog_1_method_1_code 5 = .ok (.new 7, 3) := by decide +kernel
theorem d11_8 : decode prog_1_method_1_code 8 = .ok (.dup, 1) := by decide +kernel
theorem d11_9 : decode prog_1_method_1_code 9 = .ok (.invokespecial 9, 3) := by decide +kernel
theorem d11_12 : decode prog_1_method_1_code 12 = .ok (.putfield 10, 3) := by decide +kernel
theorem d11_15 : decode prog_1_method_1_code 15 = .ok (.aload_n 0, 1) := by decide +kernel
theorem d11_16 : decode prog_1_method_1_code 16 = .ok (.sipush 1024, 3) := by decide +kernel
theorem d11_19 : decode prog_1_method_1_code 19 = .ok (.newarray .int, 2) := by decide +kernel
theorem d11_21 : decode prog_1_method_1_code 21 = .ok (.putfield 16, 3) := by decide +kernel
theorem d11_24 : decode prog_1_method_1_code 24 = .ok (.aload_n 0, 1) := by decide +kernel
theorem d11_25 : decode prog_1_method_1_code 25 = .ok (.sipush 1024, 3) := by decide +kernel
theorem d11_28 : decode prog_1_method_1_code 28 = .ok (.newarray .int, 2) := by decide +kernel
theorem d11_30 : decode prog_1_method_1_code 30 = .ok (.putfield 20, 3) := by decide +kernel
theorem d11_33 : decode prog_1_method_1_code 33 = .ok (.aload_n 0, 1) := by decide +kernel
theorem d11_34 : decode prog_1_method_1_code 34 = .ok (.sipush 1024, 3) := by decide +kernel
theorem d11_37 : decode prog_1_method_1_code 37 = .ok (.newarray .int, 2) := by decide +kernel
theorem d11_39 : decode prog_1_method_1_code 39 = .ok (.putfield 23, 3) := by decide +kernel
theorem d11_42 : decode prog_1_method_1_code 42 = .ok (.aload_n 0, 1) := by decide +kernel
theorem d11_43 : decode prog_1_method_1_code 43 = .ok (.sipush 2048, 3) := by decide +kernel
theorem d11_46 : decode prog_1_method_1_code 46 = .ok (.newarray .int, 2) := by decide +kernel
theorem d11_48 : decode prog_1_method_1_code 48 = .ok (.putfield 26, 3) := by decide +kernel
theorem d11_51 : decode prog_1_method_1_code 51 = .ok (.return_, 1) := by decide +kernel
theorem d12_0 : decode prog_1_method_3_code 0 = .ok (.aload_n 1, 1) := by decide +kernel
theorem d12_1 : decode prog_1_method_3_code 1 = .ok (.getstatic 54, 3) := by decide +kernel
theorem d12_4 : decode prog_1_method_3_code 4 = .ok (.invokevirtual 60, 3) := by decide +kernel
theorem d12_7 : decode prog_1_method_3_code 7 = .ok (.astore_n 2, 1) := by decide +kernel
theorem d12_8 : decode prog_1_method_3_code 8 = .ok (.aload_n 0, 1) := by decide +kernel
theorem d12_9 : decode prog_1_method_3_code 9 = .ok (.aload_n 2, 1) := by decide +kernel
theorem d12_10 : decode prog_1_method_3_code 10 = .ok (.iconst 0, 1) := by decide +kernel
theorem d12_11 : decode prog_1_method_3_code 11 = .ok (.aload_n 2, 1) := by decide +kernel
theorem d12_12 : decode prog_1_method_3_code 12 = .ok (.arraylength, 1) := by decide +kernel
theorem d12_13 : decode prog_1_method_3_code 13 = .ok (.invokevirtual 80, 3) := by decide +kernel
theorem d12_16 : decode prog_1_method_3_code 16 = .ok (.istore_n 3, 1) := by decide +kernel
theorem d12_17 : decode prog_1_method_3_code 17 = .ok (.iload_n 3, 1) := by decide +kernel
theorem d12_18 : decode prog_1_method_3_code 18 = .ok (.ifCond .ge 7, 3) := by decide +kernel
theorem d12_21 : decode prog_1_method_3_code 21 = .ok (.iconst (-1), 1) := by decide +kernel
theorem d12_22 : decode prog_1_method_3_code 22 = .ok (.goto 9, 3) := by decide +kernel
theorem d12_25 : decode prog_1_method_3_code 25 = .ok (.aload_n 0, 1) := by decide +kernel
theorem d12_26 : decode prog_1_method_3_code 26 = .ok (.getfield 16, 3) := by decide +kernel
theorem d12_29 : decode prog_1_method_3_code 29 = .ok (.iload_n 3, 1) := by decide +kernel
theorem d12_30 : decode prog_1_method_3_code 30 = .ok (.iaload, 1) := by decide +kernel
theorem d12_31 : decode prog_1_method_3_code 31 = .ok (.ireturn, 1) := by decide +kernel
theorem d13_0 : decode jdk_42_method_64_code 0 = .ok (.aload_n 1, 1) := by decide +kernel
theorem d13_1 : decode jdk_42_method_64_code 1 = .ok (.ifnonnull 11, 3) := by decide +kernel
theorem d13_12 : decode jdk_42_method_64_code 12 = .ok (.aload_n 1, 1) := by decide +kernel
theorem d13_13 : decode jdk_42_method_64_code 13 = .ok (.aload_n 0, 1) := by decide +kernel
theorem d13_14 : decode jdk_42_method_64_code 14 = .ok (.invokevirtual 335, 3) := by decide +kernel
theorem d13_17 : decode jdk_42_method_64_code 17 = .ok (.aload_n 0, 1) := by decide +kernel
theorem d13_18 : decode jdk_42_method_64_code 18 = .ok (.getfield 9, 3) := by decide +kernel
theorem d13_21 : decode jdk_42_method_64_code 21 = .ok (.invokestatic 535, 3) := by decide +kernel
theorem d13_24 : decode jdk_42_method_64_code 24 = .ok (.areturn, 1) := by decide +kernel
theorem d14_0 : decode jdk_42_method_152_code 0 = .ok (.getstatic 38, 3) := by decide +kernel
theorem d14_3 : decode jdk_42_method_152_code 3 = .ok (.ifCond .eq 10, 3) := by decide +kernel
theorem d14_6 : decode jdk_42_method_152_code 6 = .ok (.aload_n 0, 1) := by decide +kernel
theorem d14_7 : decode jdk_42_method_152_code 7 = .ok (.getfield 15, 3) := by decide +kernel
theorem d14_10 : decode jdk_42_method_152_code 10 = .ok (.goto 4, 3) := by decide +kernel
theorem d14_14 : decode jdk_42_method_152_code 14 = .ok (.ireturn, 1) := by decide +kernel
theorem d15_0 : decode jdk_42_method_18_code 0 = .ok (.aload_n 0, 1) := by decide +kernel
theorem d15_1 : decode jdk_42_method_18_code 1 = .ok (.getstatic 86, 3) := by decide +kernel
theorem d15_4 : decode jdk_42_method_18_code 4 = .ok (.if_acmp .ne 10, 3) := by decide +kernel
theorem d15_7 : decode jdk_42_method_18_code 7 = .ok (.iload_n 1, 1) := by decide +kernel
theorem d15_8 : decode jdk_42_method_18_code 8 = .ok (.aload_n 2, 1) := by decide +kernel
theorem d15_9 : decode jdk_42_method_18_code 9 = .ok (.iconst 1, 1) := by decide +kernel
theorem d15_10 : decode jdk_42_method_18_code 10 = .ok (.invokestatic 252, 3) := by decide +kernel
theorem d15_13 : decode jdk_42_method_18_code 13 = .ok (.areturn, 1) := by decide +kernel
theorem d16_0 : decode jdk_42_method_46_code 0 = .ok (.iload_n 0, 1) := by decide +kernel
theorem d16_1 : decode jdk_42_method_46_code 1 = .ok (.iconst 1, 1) := by decide +kernel
theorem d16_2 : decode jdk_42_method_46_code 2 = .ok (.if_icmp .ne 9, 3) := by decide +kernel
theorem d16_11 : decode jdk_42_method_46_code 11 = .ok (.aload_n 1, 1) := by decide +kernel
theorem d16_12 : decode jdk_42_method_46_code 12 = .ok (.iconst 0, 1) := by decide +kernel
theorem d16_13 : decode jdk_42_method_46_code 13 = .ok (.aload_n 1, 1) := by decide +kernel
theorem d16_14 : decode jdk_42_method_46_code 14 = .ok (.arraylength, 1) := by decide +kernel
theorem d16_15 : decode jdk_42_method_46_code 15 = .ok (.invokestatic 128, 3) := by decide +kernel
theorem d16_18 : decode jdk_42_method_46_code 18 = .ok (.ifCond .ne 11, 3) := by decide +kernel
theorem d16_21 : decode jdk_42_method_46_code 21 = .ok (.aload_n 1, 1) := by decide +kernel
theorem d16_22 : decode jdk_42_method_46_code 22 = .ok (.invokevirtual 279, 3) := by decide +kernel
theorem d16_25 : decode jdk_42_method_46_code 25 = .ok (.checkcast 280, 3) := by decide +kernel
theorem d16_28 : decode jdk_42_method_46_code 28 = .ok (.areturn, 1) := by decide +kernel
theorem d16_29 : decode jdk_42_method_46_code 29 = .ok (.iconst 0, 1) := by decide +kernel
theorem d16_30 : decode jdk_42_method_46_code 30 = .ok (.istore_n 3, 1) := by decide +kernel
theorem d16_31 : decode jdk_42_method_46_code 31 = .ok (.aload_n 1, 1) := by decide +kernel
theorem d16_32 : decode jdk_42_method_46_code 32 = .ok (.arraylength, 1) := by decide +kernel
theorem d16_33 : decode jdk_42_method_46_code 33 = .ok (.invokestatic 60, 3) := by decide +kernel
theorem d16_36 : decode jdk_42_method_46_code 36 = .ok (.astore 4, 2) := by decide +kernel
theorem d16_38 : decode jdk_42_method_46_code 38 = .ok (.aload_n 1, 1) := by decide +kernel
theorem d16_39 : decode jdk_42_method_46_code 39 = .ok (.astore 5, 2) := by decide +kernel
theorem d16_41 : decode jdk_42_method_46_code 41 = .ok (.aload 5, 2) := by decide +kernel
theorem d16_43 : decode jdk_42_method_46_code 43 = .ok (.arraylength, 1) := by decide +kernel
theorem d16_44 : decode jdk_42_method_46_code 44 = .ok (.istore 6, 2) := by decide +kernel
theorem d16_46 : decode jdk_42_method_46_code 46 = .ok (.iconst 0, 1) := by decide +kernel
theorem d16_47 : decode jdk_42_method_46_code 47 = .ok (.istore 7, 2) := by decide +kernel
theorem d16_49 : decode jdk_42_method_46_code 49 = .ok (.iload 7, 2) := by decide +kernel
theorem d16_51 : decode jdk_42_method_46_code 51 = .ok (.iload 6, 2) := by decide +kernel
theorem d16_53 : decode jdk_42_method_46_code 53 = .ok (.if_icmp .ge 71, 3) := by decide +kernel
theorem d16_56 : decode jdk_42_method_46_code 56 = .ok (.aload 5, 2) := by decide +kernel
theorem d16_58 : decode jdk_42_method_46_code 58 = .ok (.iload 7, 2) := by decide +kernel
theorem d16_60 : decode jdk_42_method_46_code 60 = .ok (.baload, 1) := by decide +kernel
theorem d16_61 : decode jdk_42_method_46_code 61 = .ok (.istore 8, 2) := by decide +kernel
theorem d16_63 : decode jdk_42_method_46_code 63 = .ok (.iload 8, 2) := by decide +kernel
theorem d16_65 : decode jdk_42_method_46_code 65 = .ok (.ifCond .ge 44, 3) := by decide +kernel
theorem d16_68 : decode jdk_42_method_46_code 68 = .ok (.aload 4, 2) := by decide +kernel
theorem d16_70 : decode jdk_42_method_46_code 70 = .ok (.iload_n 3, 1) := by decide +kernel
theorem d16_71 : decode jdk_42_method_46_code 71 = .ok (.iinc 3 1, 3) := by decide +kernel
theorem d16_74 : decode jdk_42_method_46_code 74 = .ok (.sipush 192, 3) := by decide +kernel
theorem d16_77 : decode jdk_42_method_46_code 77 = .ok (.iload 8, 2) := by decide +kernel
theorem d16_79 : decode jdk_42_method_46_code 79 = .ok (.sipush 255, 3) := by decide +kernel
theorem d16_82 : decode jdk_42_method_46_code 82 = .ok (.iand, 1) := by decide +kernel
theorem d16_83 : decode jdk_42_method_46_code 83 = .ok (.bipush 6, 2) := by decide +kernel
theorem d16_85 : decode jdk_42_method_46_code 85 = .ok (.ishr, 1) := by decide +kernel
theorem d16_86 : decode jdk_42_method_46_code 86 = .ok (.ior, 1) := by decide +kernel
theorem d16_87 : decode jdk_42_method_46_code 87 = .ok (.i2b, 1) := by decide +kernel
theorem d16_88 : decode jdk_42_method_46_code 88 = .ok (.bastore, 1) := by decide +kernel
theorem d16_89 : decode jdk_42_method_46_code 89 = .ok (.aload 4, 2) := by decide +kernel
theorem d16_91 : decode jdk_42_method_46_code 91 = .ok (.iload_n 3, 1) := by decide +kernel
theorem d16_92 : decode jdk_42_method_46_code 92 = .ok (.iinc 3 1, 3) := by decide +kernel
theorem d16_95 : decode jdk_42_method_46_code 95 = .ok (.sipush 128, 3) := by decide +kernel
theorem d16_98 : decode jdk_42_method_46_code 98 = .ok (.iload 8, 2) := by decide +kernel
theorem d16_100 : decode jdk_42_method_46_code 100 = .ok (.bipush 63, 2) := by decide +kernel
theorem d16_102 : decode jdk_42_method_46_code 102 = .ok (.iand, 1) := by decide +kernel
theorem d16_103 : decode jdk_42_method_46_code 103 = .ok (.ior, 1) := by decide +kernel
theorem d16_104 : decode jdk_42_method_46_code 104 = .ok (.i2b, 1) := by decide +kernel
theorem d16_105 : decode jdk_42_method_46_code 105 = .ok (.bastore, 1) := by decide +kernel
theorem d16_106 : decode jdk_42_method_46_code 106 = .ok (.goto 12, 3) := by decide +kernel
theorem d16_109 : decode jdk_42_method_46_code 109 = .ok (.aload 4, 2) := by decide +kernel
theorem d16_111 : decode jdk_42_method_46_code 111 = .ok (.iload_n 3, 1) := by decide +kernel
theorem d16_112 : decode jdk_42_method_46_code 112 = .ok (.iinc 3 1, 3) := by decide +kernel
theorem d16_115 : decode jdk_42_method_46_code 115 = .ok (.iload 8, 2) := by decide +kernel
theorem d16_117 : decode jdk_42_method_46_code 117 = .ok (.bastore, 1) := by decide +kernel
theorem d16_118 : decode jdk_42_method_46_code 118 = .ok (.iinc 7 1, 3) := by decide +kernel
theorem d16_121 : decode jdk_42_method_46_code 121 = .ok (.goto (-72), 3) := by decide +kernel
theorem d16_124 : decode jdk_42_method_46_code 124 = .ok (.iload_n 3, 1) := by decide +kernel
theorem d16_125 : decode jdk_42_method_46_code 125 = .ok (.aload 4, 2) := by decide +kernel
theorem d16_127 : decode jdk_42_method_46_code 127 = .ok (.arraylength, 1) := by decide +kernel
theorem d16_128 : decode jdk_42_method_46_code 128 = .ok (.if_icmp .ne 6, 3) := by decide +kernel
theorem d16_131 : decode jdk_42_method_46_code 131 = .ok (.aload 4, 2) := by decide +kernel
theorem d16_133 : decode jdk_42_method_46_code 133 = .ok (.areturn, 1) := by decide +kernel
theorem d16_134 : decode jdk_42_method_46_code 134 = .ok (.aload 4, 2) := by decide +kernel
theorem d16_136 : decode jdk_42_method_46_code 136 = .ok (.iload_n 3, 1) := by decide +kernel
theorem d16_137 : decode jdk_42_method_46_code 137 = .ok (.invokestatic 102, 3) := by decide +kernel
theorem d16_140 : decode jdk_42_method_46_code 140 = .ok (.areturn, 1) := by decide +kernel
theorem d17_0 : decode jdk_123_method_2_code 0 = .ok (.aload_n 0, 1) := by decide +kernel
theorem d17_1 : decode jdk_123_method_2_code 1 = .ok (.iload_n 1, 1) := by decide +kernel
theorem d17_2 : decode jdk_123_method_2_code 2 = .ok (.iload_n 2, 1) := by decide +kernel
theorem d17_3 : decode jdk_123_method_2_code 3 = .ok (.invokestatic 7, 3) := by decide +kernel
theorem d17_6 : decode jdk_123_method_2_code 6 = .ok (.iload_n 2, 1) := by decide +kernel
theorem d17_7 : decode jdk_123_method_2_code 7 = .ok (.if_icmp .eq 7, 3) := by decide +kernel
theorem d17_10 : decode jdk_123_method_2_code 10 = .ok (.iconst 1, 1) := by decide +kernel
theorem d17_11 : decode jdk_123_method_2_code 11 = .ok (.goto 4, 3) := by decide +kernel
theorem d17_14 : decode jdk_123_method_2_code 14 = .ok (.iconst 0, 1) := by decide +kernel
theorem d17_15 : decode jdk_123_method_2_code 15 = .ok (.ireturn, 1) := by decide +kernel
theorem d18_0 : decode jdk_123_method_3_code 0 = .ok (.iload_n 1, 1) := by decide +kernel
theorem d18_1 : decode jdk_123_method_3_code 1 = .ok (.iload_n 2, 1) := by decide +kernel
theorem d18_2 : decode jdk_123_method_3_code 2 = .ok (.iadd, 1) := by decide +kernel
theorem d18_3 : decode jdk_123_method_3_code 3 = .ok (.istore_n 3, 1) := by decide +kernel
theorem d18_4 : decode jdk_123_method_3_code 4 = .ok (.iload_n 1, 1) := by decide +kernel
theorem d18_5 : decode jdk_123_method_3_code 5 = .ok (.istore 4, 2) := by decide +kernel
theorem d18_7 : decode jdk_123_method_3_code 7 = .ok (.iload 4, 2) := by decide +kernel
theorem d18_9 : decode jdk_123_method_3_code 9 = .ok (.iload_n 3, 1) := by decide +kernel
theorem d18_10 : decode jdk_123_method_3_code 10 = .ok (.if_icmp .ge 21, 3) := by decide +kernel
theorem d18_13 : decode jdk_123_method_3_code 13 = .ok (.aload_n 0, 1) := by decide +kernel
theorem d18_14 : decode jdk_123_method_3_code 14 = .ok (.iload 4, 2) := by decide +kernel
theorem d18_16 : decode jdk_123_method_3_code 16 = .ok (.baload, 1) := by decide +kernel
theorem d18_17 : decode jdk_123_method_3_code 17 = .ok (.ifCond .ge 8, 3) := by decide +kernel
theorem d18_20 : decode jdk_123_method_3_code 20 = .ok (.iload 4, 2) := by decide +kernel
theorem d18_22 : decode jdk_123_method_3_code 22 = .ok (.iload_n 1, 1) := by decide +kernel
theorem d18_23 : decode jdk_123_method_3_code 23 = .ok (.isub, 1) := by decide +kernel
theorem d18_24 : decode jdk_123_method_3_code 24 = .ok (.ireturn, 1) := by decide +kernel
theorem d18_25 : decode jdk_123_method_3_code 25 = .ok (.iinc 4 1, 3) := by decide +kernel
theorem d18_28 : decode jdk_123_method_3_code 28 = .ok (.goto (-21), 3) := by decide +kernel
theorem d18_31 : decode jdk_123_method_3_code 31 = .ok (.iload_n 2, 1) := by decide +kernel
theorem d18_32 : decode jdk_123_method_3_code 32 = .ok (.ireturn, 1) := by decide +kernel
theorem d19_0 : decode prog_1_method_4_code 0 = .ok (.aload_n 0, 1) := by decide +kernel
theorem d19_1 : decode prog_1_method_4_code 1 = .ok (.getfield 26, 3) := by decide +kernel
theorem d19_4 : decode prog_1_method_4_code 4 = .ok (.arraylength, 1) := by decide +kernel
theorem d19_5 : decode prog_1_method_4_code 5 = .ok (.iconst 1, 1) := by decide +kernel
theorem d19_6 : decode prog_1_method_4_code 6 = .ok (.isub, 1) := by decide +kernel
theorem d19_7 : decode prog_1_method_4_code 7 = .ok (.istore 4, 2) := by decide +kernel
theorem d19_9 : decode prog_1_method_4_code 9 = .ok (.aload_n 1, 1) := by decide +kernel
theorem d19_10 : decode prog_1_method_4_code 10 = .ok (.iload_n 2, 1) := by decide +kernel
theorem d19_11 : decode prog_1_method_4_code 11 = .ok (.iload_n 3, 1) := by decide +kernel
theorem d19_12 : decode prog_1_method_4_code 12 = .ok (.invokestatic 88, 3) := by decide +kernel
theorem d19_15 : decode prog_1_method_4_code 15 = .ok (.iload 4, 2) := by decide +kernel
theorem d19_17 : decode prog_1_method_4_code 17 = .ok (.iand, 1) := by decide +kernel
theorem d19_18 : decode prog_1_method_4_code 18 = .ok (.istore 5, 2) := by decide +kernel
theorem d19_20 : decode prog_1_method_4_code 20 = .ok (.aload_n 0, 1) := by decide +kernel
theorem d19_21 : decode prog_1_method_4_code 21 = .ok (.getfield 26, 3) := by decide +kernel
theorem d19_24 : decode prog_1_method_4_code 24 = .ok (.iload 5, 2) := by decide +kernel
theorem d19_26 : decode prog_1_method_4_code 26 = .ok (.iaload, 1) := by decide +kernel
theorem d19_27 : decode prog_1_method_4_code 27 = .ok (.ifCond .eq 75, 3) := by decide +kernel
theorem d19_30 : decode prog_1_method_4_code 30 = .ok (.aload_n 0, 1) := by decide +kernel
theorem d19_31 : decode prog_1_method_4_code 31 = .ok (.getfield 26, 3) := by decide +kernel
theorem d19_34 : decode prog_1_method_4_code 34 = .ok (.iload 5, 2) := by decide +kernel
theorem d19_36 : decode prog_1_method_4_code 36 = .ok (.iaload, 1) := by decide +kernel
theorem d19_37 : decode prog_1_method_4_code 37 = .ok (.iconst 1, 1) := by decide +kernel
theorem d19_38 : decode prog_1_method_4_code 38 = .ok (.isub, 1) := by decide +kernel
theorem d19_39 : decode prog_1_method_4_code 39 = .ok (.istore 6, 2) := by decide +kernel
theorem d19_41 : decode prog_1_method_4_code 41 = .ok (.aload_n 0, 1) := by decide +kernel
theorem d19_42 : decode prog_1_method_4_code 42 = .ok (.getfield 10, 3) := by decide +kernel
theorem d19_45 : decode prog_1_method_4_code 45 = .ok (.aload_n 0, 1) := by decide +kernel
theorem d19_46 : decode prog_1_method_4_code 46 = .ok (.getfield 16, 3) := by decide +kernel
theorem d19_49 : decode prog_1_method_4_code 49 = .ok (.iload 6, 2) := by decide +kernel
theorem d19_51 : decode prog_1_method_4_code 51 = .ok (.iaload, 1) := by decide +kernel
theorem d19_52 : decode prog_1_method_4_code 52 = .ok (.invokeinterface 68 2, 5) := by decide +kernel
theorem d19_57 : decode prog_1_method_4_code 57 = .ok (.checkcast 72, 3) := by decide +kernel
theorem d19_60 : decode prog_1_method_4_code 60 = .ok (.astore 7, 2) := by decide +kernel
theorem d19_62 : decode prog_1_method_4_code 62 = .ok (.aload 7, 2) := by decide +kernel
theorem d19_64 : decode prog_1_method_4_code 64 = .ok (.aload_n 0, 1) := by decide +kernel
theorem d19_65 : decode prog_1_method_4_code 65 = .ok (.getfield 20, 3) := by decide +kernel
theorem d19_68 : decode prog_1_method_4_code 68 = .ok (.iload 6, 2) := by decide +kernel
theorem d19_70 : decode prog_1_method_4_code 70 = .ok (.iaload, 1) := by decide +kernel
theorem d19_71 : decode prog_1_method_4_code 71 = .ok (.aload_n 0, 1) := by decide +kernel
theorem d19_72 : decode prog_1_method_4_code 72 = .ok (.getfield 23, 3) := by decide +kernel
theorem d19_75 : decode prog_1_method_4_code 75 = .ok (.iload 6, 2) := by decide +kernel
theorem d19_77 : decode prog_1_method_4_code 77 = .ok (.iaload, 1) := by decide +kernel
theorem d19_78 : decode prog_1_method_4_code 78 = .ok (.aload_n 1, 1) := by decide +kernel
theorem d19_79 : decode prog_1_method_4_code 79 = .ok (.iload_n 2, 1) := by decide +kernel
theorem d19_80 : decode prog_1_method_4_code 80 = .ok (.iload_n 3, 1) := by decide +kernel
theorem d19_81 : decode prog_1_method_4_code 81 = .ok (.invokestatic 91, 3) := by decide +kernel
theorem d19_84 : decode prog_1_method_4_code 84 = .ok (.ifCond .eq 6, 3) := by decide +kernel
theorem d19_87 : decode prog_1_method_4_code 87 = .ok (.iload 6, 2) := by decide +kernel
theorem d19_89 : decode prog_1_method_4_code 89 = .ok (.ireturn, 1) := by decide +kernel
theorem d19_90 : decode prog_1_method_4_code 90 = .ok (.iload 5, 2) := by decide +kernel
theorem d19_92 : decode prog_1_method_4_code 92 = .ok (.iconst 1, 1) := by decide +kernel
theorem d19_93 : decode prog_1_method_4_code 93 = .ok (.iadd, 1) := by decide +kernel
theorem d19_94 : decode prog_1_method_4_code 94 = .ok (.iload 4, 2) := by decide +kernel
theorem d19_96 : decode prog_1_method_4_code 96 = .ok (.iand, 1) := by decide +kernel
theorem d19_97 : decode prog_1_method_4_code 97 = .ok (.istore 5, 2) := by decide +kernel
theorem d19_99 : decode prog_1_method_4_code 99 = .ok (.goto (-79), 3) := by decide +kernel
theorem d19_102 : decode prog_1_method_4_code 102 = .ok (.iconst (-1), 1) := by decide +kernel
theorem d19_103 : decode prog_1_method_4_code 103 = .ok (.ireturn, 1) := by decide +kernel
theorem d20_0 : decode prog_1_method_7_code 0 = .ok (.iconst 0, 1) := by decide +kernel
theorem d20_1 : decode prog_1_method_7_code 1 = .ok (.istore_n 3, 1) := by decide +kernel
theorem d20_2 : decode prog_1_method_7_code 2 = .ok (.iload_n 1, 1) := by decide +kernel
theorem d20_3 : decode prog_1_method_7_code 3 = .ok (.istore 4, 2) := by decide +kernel
theorem d20_5 : decode prog_1_method_7_code 5 = .ok (.iload 4, 2) := by decide +kernel
theorem d20_7 : decode prog_1_method_7_code 7 = .ok (.iload_n 2, 1) := by decide +kernel
theorem d20_8 : decode prog_1_method_7_code 8 = .ok (.if_icmp .ge 19, 3) := by decide +kernel
theorem d20_11 : decode prog_1_method_7_code 11 = .ok (.bipush 31, 2) := by decide +kernel
theorem d20_13 : decode prog_1_method_7_code 13 = .ok (.iload_n 3, 1) := by decide +kernel
theorem d20_14 : decode prog_1_method_7_code 14 = .ok (.imul, 1) := by decide +kernel
theorem d20_15 : decode prog_1_method_7_code 15 = .ok (.aload_n 0, 1) := by decide +kernel
theorem d20_16 : decode prog_1_method_7_code 16 = .ok (.iload 4, 2) := by decide +kernel
theorem d20_18 : decode prog_1_method_7_code 18 = .ok (.baload, 1) := by decide +kernel
theorem d20_19 : decode prog_1_method_7_code 19 = .ok (.iadd, 1) := by decide +kernel
theorem d20_20 : decode prog_1_method_7_code 20 = .ok (.istore_n 3, 1) := by decide +kernel
theorem d20_21 : decode prog_1_method_7_code 21 = .ok (.iinc 4 1, 3) := by decide +kernel
theorem d20_24 : decode prog_1_method_7_code 24 = .ok (.goto (-19), 3) := by decide +kernel
theorem d20_27 : decode prog_1_method_7_code 27 = .ok (.iload_n 3, 1) := by decide +kernel
theorem d20_28 : decode prog_1_method_7_code 28 = .ok (.iload_n 3, 1) := by decide +kernel
theorem d20_29 : decode prog_1_method_7_code 29 = .ok (.bipush 16, 2) := by decide +kernel
theorem d20_31 : decode prog_1_method_7_code 31 = .ok (.iushr, 1) := by decide +kernel
theorem d20_32 : decode prog_1_method_7_code 32 = .ok (.ixor, 1) := by decide +kernel
theorem d20_33 : decode prog_1_method_7_code 33 = .ok (.istore_n 3, 1) := by decide +kernel
theorem d20_34 : decode prog_1_method_7_code 34 = .ok (.iload_n 3, 1) := by decide +kernel
theorem d20_35 : decode prog_1_method_7_code 35 = .ok (.ldc 107, 2) := by decide +kernel
theorem d20_37 : decode prog_1_method_7_code 37 = .ok (.imul, 1) := by decide +kernel
theorem d20_38 : decode prog_1_method_7_code 38 = .ok (.istore_n 3, 1) := by decide +kernel
theorem d20_39 : decode prog_1_method_7_code 39 = .ok (.iload_n 3, 1) := by decide +kernel
theorem d20_40 : decode prog_1_method_7_code 40 = .ok (.iload_n 3, 1) := by decide +kernel
theorem d20_41 : decode prog_1_method_7_code 41 = .ok (.bipush 13, 2) := by decide +kernel
theorem d20_43 : decode prog_1_method_7_code 43 = .ok (.iushr, 1) := by decide +kernel
theorem d20_44 : decode prog_1_method_7_code 44 = .ok (.ixor, 1) := by decide +kernel
theorem d20_45 : decode prog_1_method_7_code 45 = .ok (.istore_n 3, 1) := by decide +kernel
theorem d20_46 : decode prog_1_method_7_code 46 = .ok (.iload_n 3, 1) := by decide +kernel
theorem d20_47 : decode prog_1_method_7_code 47 = .ok (.ldc 108, 2) := by decide +kernel
theorem d20_49 : decode prog_1_method_7_code 49 = .ok (.imul, 1) := by decide +kernel
theorem d20_50 : decode prog_1_method_7_code 50 = .ok (.istore_n 3, 1) := by decide +kernel
theorem d20_51 : decode prog_1_method_7_code 51 = .ok (.iload_n 3, 1) := by decide +kernel
theorem d20_52 : decode prog_1_method_7_code 52 = .ok (.iload_n 3, 1) := by decide +kernel
theorem d20_53 : decode prog_1_method_7_code 53 = .ok (.bipush 16, 2) := by decide +kernel
theorem d20_55 : decode prog_1_method_7_code 55 = .ok (.iushr, 1) := by decide +kernel
theorem d20_56 : decode prog_1_method_7_code 56 = .ok (.ixor, 1) := by decide +kernel
theorem d20_57 : decode prog_1_method_7_code 57 = .ok (.istore_n 3, 1) := by decide +kernel
theorem d20_58 : decode prog_1_method_7_code 58 = .ok (.iload_n 3, 1) := by decide +kernel
theorem d20_59 : decode prog_1_method_7_code 59 = .ok (.ireturn, 1) := by decide +kernel
theorem d21_0 : decode prog_1_method_2_code 0 = .ok (.aload_n 0, 1) := by decide +kernel
theorem d21_1 : decode prog_1_method_2_code 1 = .ok (.getfield 10, 3) := by decide +kernel
theorem d21_4 : decode prog_1_method_2_code 4 = .ok (.invokeinterface 29 1, 5) := by decide +kernel
theorem d21_9 : decode prog_1_method_2_code 9 = .ok (.istore_n 2, 1) := by decide +kernel
theorem d21_10 : decode prog_1_method_2_code 10 = .ok (.new 7, 3) := by decide +kernel
theorem d21_13 : decode prog_1_method_2_code 13 = .ok (.dup, 1) := by decide +kernel
theorem d21_14 : decode prog_1_method_2_code 14 = .ok (.aload_n 1, 1) := by decide +kernel
theorem d21_15 : decode prog_1_method_2_code 15 = .ok (.invokeinterface 29 1, 5) := by decide +kernel
theorem d21_20 : decode prog_1_method_2_code 20 = .ok (.invokespecial 35, 3) := by decide +kernel
theorem d21_23 : decode prog_1_method_2_code 23 = .ok (.astore_n 3, 1) := by decide +kernel
theorem d21_24 : decode prog_1_method_2_code 24 = .ok (.iconst 0, 1) := by decide +kernel
theorem d21_25 : decode prog_1_method_2_code 25 = .ok (.istore 4, 2) := by decide +kernel
theorem d21_27 : decode prog_1_method_2_code 27 = .ok (.aload_n 1, 1) := by decide +kernel
theorem d21_28 : decode prog_1_method_2_code 28 = .ok (.invokeinterface 38 1, 5) := by decide +kernel
theorem d21_33 : decode prog_1_method_2_code 33 = .ok (.astore 5, 2) := by decide +kernel
theorem d21_35 : decode prog_1_method_2_code 35 = .ok (.aload 5, 2) := by decide +kernel
theorem d21_37 : decode prog_1_method_2_code 37 = .ok (.invokeinterface 42 1, 5) := by decide +kernel
theorem d21_42 : decode prog_1_method_2_code 42 = .ok (.ifCond .eq 45, 3) := by decide +kernel
theorem d21_45 : decode prog_1_method_2_code 45 = .ok (.aload 5, 2) := by decide +kernel
theorem d21_47 : decode prog_1_method_2_code 47 = .ok (.invokeinterface 48 1, 5) := by decide +kernel
theorem d21_52 : decode prog_1_method_2_code 52 = .ok (.checkcast 52, 3) := by decide +kernel
theorem d21_55 : decode prog_1_method_2_code 55 = .ok (.astore 6, 2) := by decide +kernel
theorem d21_57 : decode prog_1_method_2_code 57 = .ok (.aload 6, 2) := by decide +kernel
theorem d21_59 : decode prog_1_method_2_code 59 = .ok (.getstatic 54, 3) := by decide +kernel
theorem d21_62 : decode prog_1_method_2_code 62 = .ok (.invokevirtual 60, 3) := by decide +kernel
theorem d21_65 : decode prog_1_method_2_code 65 = .ok (.astore 7, 2) := by decide +kernel
theorem d21_67 : decode prog_1_method_2_code 67 = .ok (.aload_n 3, 1) := by decide +kernel
theorem d21_68 : decode prog_1_method_2_code 68 = .ok (.aload 7, 2) := by decide +kernel
theorem d21_70 : decode prog_1_method_2_code 70 = .ok (.invokeinterface 64 2, 5) := by decide +kernel
theorem d21_75 : decode prog_1_method_2_code 75 = .ok (.pop, 1) := by decide +kernel
theorem d21_76 : decode prog_1_method_2_code 76 = .ok (.iload 4, 2) := by decide +kernel
theorem d21_78 : decode prog_1_method_2_code 78 = .ok (.aload 7, 2) := by decide +kernel
theorem d21_80 : decode prog_1_method_2_code 80 = .ok (.arraylength, 1) := by decide +kernel
theorem d21_81 : decode prog_1_method_2_code 81 = .ok (.iadd, 1) := by decide +kernel
theorem d21_82 : decode prog_1_method_2_code 82 = .ok (.istore 4, 2) := by decide +kernel
theorem d21_84 : decode prog_1_method_2_code 84 = .ok (.goto (-49), 3) := by decide +kernel
theorem d21_87 : decode prog_1_method_2_code 87 = .ok (.iload 4, 2) := by decide +kernel
theorem d21_89 : decode prog_1_method_2_code 89 = .ok (.newarray .byte, 2) := by decide +kernel
theorem d21_91 : decode prog_1_method_2_code 91 = .ok (.astore 5, 2) := by decide +kernel
theorem d21_93 : decode prog_1_method_2_code 93 = .ok (.aload_n 0, 1) := by decide +kernel
theorem d21_94 : decode prog_1_method_2_code 94 = .ok (.getfield 10, 3) := by decide +kernel
theorem d21_97 : decode prog_1_method_2_code 97 = .ok (.aload 5, 2) := by decide +kernel
theorem d21_99 : decode prog_1_method_2_code 99 = .ok (.invokeinterface 64 2, 5) := by decide +kernel
theorem d21_104 : decode prog_1_method_2_code 104 = .ok (.pop, 1) := by decide +kernel
theorem d21_105 : decode prog_1_method_2_code 105 = .ok (.iconst 0, 1) := by decide +kernel
theorem d21_106 : decode prog_1_method_2_code 106 = .ok (.istore 6, 2) := by decide +kernel
theorem d21_108 : decode prog_1_method_2_code 108 = .ok (.iconst 0, 1) := by decide +kernel
theorem d21_109 : decode prog_1_method_2_code 109 = .ok (.istore 7, 2) := by decide +kernel
theorem d21_111 : decode prog_1_method_2_code 111 = .ok (.iload 7, 2) := by decide +kernel
theorem d21_113 : decode prog_1_method_2_code 113 = .ok (.aload_n 3, 1) := by decide +kernel
theorem d21_114 : decode prog_1_method_2_code 114 = .ok (.invokeinterface 29 1, 5) := by decide +kernel
theorem d21_119 : decode prog_1_method_2_code 119 = .ok (.if_icmp .ge 72, 3) := by decide +kernel
theorem d21_122 : decode prog_1_method_2_code 122 = .ok (.aload_n 3, 1) := by decide +kernel
theorem d21_123 : decode prog_1_method_2_code 123 = .ok (.iload 7, 2) := by decide +kernel
theorem d21_125 : decode prog_1_method_2_code 125 = .ok (.invokeinterface 68 2, 5) := by decide +kernel
theorem d21_130 : decode prog_1_method_2_code 130 = .ok (.checkcast 72, 3) := by decide +kernel
theorem d21_133 : decode prog_1_method_2_code 133 = .ok (.astore 8, 2) := by decide +kernel
theorem d21_135 : decode prog_1_method_2_code 135 = .ok (.aload 8, 2) := by decide +kernel
theorem d21_137 : decode prog_1_method_2_code 137 = .ok (.iconst 0, 1) := by decide +kernel
theorem d21_138 : decode prog_1_method_2_code 138 = .ok (.aload 5, 2) := by decide +kernel
theorem d21_140 : decode prog_1_method_2_code 140 = .ok (.iload 6, 2) := by decide +kernel
theorem d21_142 : decode prog_1_method_2_code 142 = .ok (.aload 8, 2) := by decide +kernel
theorem d21_144 : decode prog_1_method_2_code 144 = .ok (.arraylength, 1) := by decide +kernel
theorem d21_145 : decode prog_1_method_2_code 145 = .ok (.invokestatic 74, 3) := by decide +kernel
theorem d21_148 : decode prog_1_method_2_code 148 = .ok (.iload 6, 2) := by decide +kernel
theorem d21_150 : decode prog_1_method_2_code 150 = .ok (.aload 8, 2) := by decide +kernel
theorem d21_152 : decode prog_1_method_2_code 152 = .ok (.arraylength, 1) := by decide +kernel
theorem d21_153 : decode prog_1_method_2_code 153 = .ok (.iadd, 1) := by decide +kernel
theorem d21_154 : decode prog_1_method_2_code 154 = .ok (.istore 9, 2) := by decide +kernel
theorem d21_156 : decode prog_1_method_2_code 156 = .ok (.aload_n 0, 1) := by decide +kernel
theorem d21_157 : decode prog_1_method_2_code 157 = .ok (.aload 5, 2) := by decide +kernel
theorem d21_159 : decode prog_1_method_2_code 159 = .ok (.iload 6, 2) := by decide +kernel
theorem d21_161 : decode prog_1_method_2_code 161 = .ok (.iload 9, 2) := by decide +kernel
theorem d21_163 : decode prog_1_method_2_code 163 = .ok (.invokevirtual 80, 3) := by decide +kernel
theorem d21_166 : decode prog_1_method_2_code 166 = .ok (.ifCond .lt 6, 3) := by decide +kernel
theorem d21_169 : decode prog_1_method_2_code 169 = .ok (.iload 7, 2) := by decide +kernel
theorem d21_171 : decode prog_1_method_2_code 171 = .ok (.ireturn, 1) := by decide +kernel
theorem d21_172 : decode prog_1_method_2_code 172 = .ok (.aload_n 0, 1) := by decide +kernel
theorem d21_173 : decode prog_1_method_2_code 173 = .ok (.iload_n 2, 1) := by decide +kernel
theorem d21_174 : decode prog_1_method_2_code 174 = .ok (.iload 6, 2) := by decide +kernel
theorem d21_176 : decode prog_1_method_2_code 176 = .ok (.iload 9, 2) := by decide +kernel
theorem d21_178 : decode prog_1_method_2_code 178 = .ok (.invokevirtual 84, 3) := by decide +kernel
theorem d21_181 : decode prog_1_method_2_code 181 = .ok (.iload 9, 2) := by decide +kernel
theorem d21_183 : decode prog_1_method_2_code 183 = .ok (.istore 6, 2) := by decide +kernel
theorem d21_185 : decode prog_1_method_2_code 185 = .ok (.iinc 7 1, 3) := by decide +kernel
theorem d21_188 : decode prog_1_method_2_code 188 = .ok (.goto (-77), 3) := by decide +kernel
theorem d21_191 : decode prog_1_method_2_code 191 = .ok (.aload_n 1, 1) := by decide +kernel
theorem d21_192 : decode prog_1_method_2_code 192 = .ok (.invokeinterface 29 1, 5) := by decide +kernel
theorem d21_197 : decode prog_1_method_2_code 197 = .ok (.ireturn, 1) := by decide +kernel
theorem d22_0 : decode jdk_38_method_8_code 0 = .ok (.aload_n 0, 1) := by decide +kernel
theorem d22_1 : decode jdk_38_method_8_code 1 = .ok (.getfield 48, 3) := by decide +kernel
theorem d22_4 : decode jdk_38_method_8_code 4 = .ok (.ireturn, 1) := by decide +kernel
theorem d23_0 : decode jdk_38_method_1_code 0 = .ok (.aload_n 0, 1) := by decide +kernel
theorem d23_1 : decode jdk_38_method_1_code 1 = .ok (.invokespecial 1, 3) := by decide +kernel
theorem d23_4 : decode jdk_38_method_1_code 4 = .ok (.iload_n 1, 1) := by decide +kernel
theorem d23_5 : decode jdk_38_method_1_code 5 = .ok (.ifCond .le 14, 3) := by decide +kernel
theorem d23_8 : decode jdk_38_method_1_code 8 = .ok (.aload_n 0, 1) := by decide +kernel
theorem d23_9 : decode jdk_38_method_1_code 9 = .ok (.iload_n 1, 1) := by decide +kernel
theorem d23_10 : decode jdk_38_method_1_code 10 = .ok (.anewarray 7, 3) := by decide +kernel
theorem d23_13 : decode jdk_38_method_1_code 13 = .ok (.putfield 9, 3) := by decide +kernel
theorem d23_16 : decode jdk_38_method_1_code 16 = .ok (.goto 44, 3) := by decide +kernel
theorem d23_60 : decode jdk_38_method_1_code 60 = .ok (.return_, 1) := by decide +kernel
theorem d24_0 : decode jdk_38_method_55_code 0 = .ok (.new 267, 3) := by decide +kernel
theorem d24_3 : decode jdk_38_method_55_code 3 = .ok (.dup, 1) := by decide +kernel
theorem d24_4 : decode jdk_38_method_55_code 4 = .ok (.aload_n 0, 1) := by decide +kernel
theorem d24_5 : decode jdk_38_method_55_code 5 = .ok (.invokespecial 269, 3) := by decide +kernel
theorem d24_8 : decode jdk_38_method_55_code 8 = .ok (.areturn, 1) := by decide +kernel
theorem d25_0 : decode jdk_49_method_1_code 0 = .ok (.aload_n 0, 1) := by decide +kernel
theorem d25_1 : decode jdk_49_method_1_code 1 = .ok (.aload_n 1, 1) := by decide +kernel
theorem d25_2 : decode jdk_49_method_1_code 2 = .ok (.putfield 1, 3) := by decide +kernel
theorem d25_5 : decode jdk_49_method_1_code 5 = .ok (.aload_n 0, 1) := by decide +kernel
theorem d25_6 : decode jdk_49_method_1_code 6 = .ok (.invokespecial 7, 3) := by decide +kernel
theorem d25_9 : decode jdk_49_method_1_code 9 = .ok (.aload_n 0, 1) := by decide +kernel
theorem d25_10 : decode jdk_49_method_1_code 10 = .ok (.iconst (-1), 1) := by decide +kernel
theorem d25_11 : decode jdk_49_method_1_code 11 = .ok (.putfield 13, 3) := by decide +kernel
theorem d25_14 : decode jdk_49_method_1_code 14 = .ok (.aload_n 0, 1) := by decide +kernel
theorem d25_15 : decode jdk_49_method_1_code 15 = .ok (.aload_n 0, 1) := by decide +kernel
theorem d25_16 : decode jdk_49_method_1_code 16 = .ok (.getfield 1, 3) := by decide +kernel
theorem d25_19 : decode jdk_49_method_1_code 19 = .ok (.getfield 17, 3) := by decide +kernel
theorem d25_22 : decode jdk_49_method_1_code 22 = .ok (.putfield 22, 3) := by decide +kernel
theorem d25_25 : decode jdk_49_method_1_code 25 = .ok (.return_, 1) := by decide +kernel
theorem d26_0 : decode jdk_49_method_2_code 0 = .ok (.aload_n 0, 1) := by decide +kernel
theorem d26_1 : decode jdk_49_method_2_code 1 = .ok (.getfield 25, 3) := by decide +kernel
theorem d26_4 : decode jdk_49_method_2_code 4 = .ok (.aload_n 0, 1) := by decide +kernel
theorem d26_5 : decode jdk_49_method_2_code 5 = .ok (.getfield 1, 3) := by decide +kernel
theorem d26_8 : decode jdk_49_method_2_code 8 = .ok (.getfield 28, 3) := by decide +kernel
theorem d26_11 : decode jdk_49_method_2_code 11 = .ok (.if_icmp .eq 7, 3) := by decide +kernel
theorem d26_14 : decode jdk_49_method_2_code 14 = .ok (.iconst 1, 1) := by decide +kernel
theorem d26_15 : decode jdk_49_method_2_code 15 = .ok (.goto 4, 3) := by decide +kernel
theorem d26_18 : decode jdk_49_method_2_code 18 = .ok (.iconst 0, 1) := by decide +kernel
theorem d26_19 : decode jdk_49_method_2_code 19 = .ok (.ireturn, 1) := by decide +kernel
theorem d27_0 : decode jdk_49_method_3_code 0 = .ok (.aload_n 0, 1) := by decide +kernel
theorem d27_1 : decode jdk_49_method_3_code 1 = .ok (.invokevirtual 31, 3) := by decide +kernel
theorem d27_4 : decode jdk_49_method_3_code 4 = .ok (.aload_n 0, 1) := by decide +kernel
theorem d27_5 : decode jdk_49_method_3_code 5 = .ok (.getfield 25, 3) := by decide +kernel
theorem d27_8 : decode jdk_49_method_3_code 8 = .ok (.istore_n 1, 1) := by decide +kernel
theorem d27_9 : decode jdk_49_method_3_code 9 = .ok (.iload_n 1, 1) := by decide +kernel
theorem d27_10 : decode jdk_49_method_3_code 10 = .ok (.aload_n 0, 1) := by decide +kernel
theorem d27_11 : decode jdk_49_method_3_code 11 = .ok (.getfield 1, 3) := by decide +kernel
theorem d27_14 : decode jdk_49_method_3_code 14 = .ok (.getfield 28, 3) := by decide +kernel
theorem d27_17 : decode jdk_49_method_3_code 17 = .ok (.if_icmp .lt 11, 3) := by decide +kernel
theorem d27_28 : decode jdk_49_method_3_code 28 = .ok (.aload_n 0, 1) := by decide +kernel
theorem d27_29 : decode jdk_49_method_3_code 29 = .ok (.getfield 1, 3) := by decide +kernel
theorem d27_32 : decode jdk_49_method_3_code 32 = .ok (.getfield 37, 3) := by decide +kernel
theorem d27_35 : decode jdk_49_method_3_code 35 = .ok (.astore_n 2, 1) := by decide +kernel
theorem d27_36 : decode jdk_49_method_3_code 36 = .ok (.iload_n 1, 1) := by decide +kernel
theorem d27_37 : decode jdk_49_method_3_code 37 = .ok (.aload_n 2, 1) := by decide +kernel
theorem d27_38 : decode jdk_49_method_3_code 38 = .ok (.arraylength, 1) := by decide +kernel
theorem d27_39 : decode jdk_49_method_3_code 39 = .ok (.if_icmp .lt 11, 3) := by decide +kernel
theorem d27_50 : decode jdk_49_method_3_code 50 = .ok (.aload_n 0, 1) := by decide +kernel
theorem d27_51 : decode jdk_49_method_3_code 51 = .ok (.iload_n 1, 1) := by decide +kernel
theorem d27_52 : decode jdk_49_method_3_code 52 = .ok (.iconst 1, 1) := by decide +kernel
theorem d27_53 : decode jdk_49_method_3_code 53 = .ok (.iadd, 1) := by decide +kernel
theorem d27_54 : decode jdk_49_method_3_code 54 = .ok (.putfield 25, 3) := by decide +kernel
theorem d27_57 : decode jdk_49_method_3_code 57 = .ok (.aload_n 2, 1) := by decide +kernel
theorem d27_58 : decode jdk_49_method_3_code 58 = .ok (.aload_n 0, 1) := by decide +kernel
theorem d27_59 : decode jdk_49_method_3_code 59 = .ok (.iload_n 1, 1) := by decide +kernel
theorem d27_60 : decode jdk_49_method_3_code 60 = .ok (.dup_x1, 1) := by decide +kernel
theorem d27_61 : decode jdk_49_method_3_code 61 = .ok (.putfield 13, 3) := by decide +kernel
theorem d27_64 : decode jdk_49_method_3_code 64 = .ok (.aaload, 1) := by decide +kernel
theorem d27_65 : decode jdk_49_method_3_code 65 = .ok (.areturn, 1) := by decide +kernel
theorem d28_0 : decode jdk_49_method_6_code 0 = .ok (.aload_n 0, 1) := by decide +kernel
theorem d28_1 : decode jdk_49_method_6_code 1 = .ok (.getfield 1, 3) := by decide +kernel
theorem d28_4 : decode jdk_49_method_6_code 4 = .ok (.getfield 17, 3) := by decide +kernel
theorem d28_7 : decode jdk_49_method_6_code 7 = .ok (.aload_n 0, 1) := by decide +kernel
theorem d28_8 : decode jdk_49_method_6_code 8 = .ok (.getfield 22, 3) := by decide +kernel
theorem d28_11 : decode jdk_49_method_6_code 11 = .ok (.if_icmp .eq 11, 3) := by decide +kernel
theorem d28_22 : decode jdk_49_method_6_code 22 = .ok (.return_, 1) := by decide +kernel
theorem d29_0 : decode jdk_38_method_20_code 0 = .ok (.iload_n 1, 1) := by decide +kernel
theorem d29_1 : decode jdk_38_method_20_code 1 = .ok (.aload_n 0, 1) := by decide +kernel
theorem d29_2 : decode jdk_38_method_20_code 2 = .ok (.getfield 48, 3) := by decide +kernel
theorem d29_5 : decode jdk_38_method_20_code 5 = .ok (.invokestatic 118, 3) := by decide +kernel
theorem d29_8 : decode jdk_38_method_20_code 8 = .ok (.pop, 1) := by decide +kernel
theorem d29_9 : decode jdk_38_method_20_code 9 = .ok (.aload_n 0, 1) := by decide +kernel
theorem d29_10 : decode jdk_38_method_20_code 10 = .ok (.iload_n 1, 1) := by decide +kernel
theorem d29_11 : decode jdk_38_method_20_code 11 = .ok (.invokevirtual 123, 3) := by decide +kernel
theorem d29_14 : decode jdk_38_method_20_code 14 = .ok (.areturn, 1) := by decide +kernel
theorem d30_0 : decode jdk_31_method_17_code 0 = .ok (.iload_n 0, 1) := by decide +kernel
theorem d30_1 : decode jdk_31_method_17_code 1 = .ok (.iload_n 1, 1) := by decide +kernel
theorem d30_2 : decode jdk_31_method_17_code 2 = .ok (.aconst_null, 1) := by decide +kernel
theorem d30_3 : decode jdk_31_method_17_code 3 = .ok (.invokestatic 105, 3) := by decide +kernel
theorem d30_6 : decode jdk_31_method_17_code 6 = .ok (.ireturn, 1) := by decide +kernel
theorem d31_0 : decode jdk_41_method_11_code 0 = .ok (.iload_n 0, 1) := by decide +kernel
theorem d31_1 : decode jdk_41_method_11_code 1 = .ok (.ifCond .lt 8, 3) := by decide +kernel
theorem d31_4 : decode jdk_41_method_11_code 4 = .ok (.iload_n 0, 1) := by decide +kernel
theorem d31_5 : decode jdk_41_method_11_code 5 = .ok (.iload_n 1, 1) := by decide +kernel
theorem d31_6 : decode jdk_41_method_11_code 6 = .ok (.if_icmp .lt 10, 3) := by decide +kernel
theorem d31_16 : decode jdk_41_method_11_code 16 = .ok (.iload_n 0, 1) := by decide +kernel
theorem d31_17 : decode jdk_41_method_11_code 17 = .ok (.ireturn, 1) := by decide +kernel
theorem d32_0 : decode jdk_38_method_18_code 0 = .ok (.aload_n 0, 1) := by decide +kernel
theorem d32_1 : decode jdk_38_method_18_code 1 = .ok (.getfield 9, 3) := by decide +kernel
theorem d32_4 : decode jdk_38_method_18_code 4 = .ok (.iload_n 1, 1) := by decide +kernel
theorem d32_5 : decode jdk_38_method_18_code 5 = .ok (.aaload, 1) := by decide +kernel
theorem d32_6 : decode jdk_38_method_18_code 6 = .ok (.areturn, 1) := by decide +kernel
theorem d33_0 : decode prog_1_method_5_code 0 = .ok (.aload_n 0, 1) := by decide +kernel
theorem d33_1 : decode prog_1_method_5_code 1 = .ok (.getfield 97, 3) := by decide +kernel
theorem d33_4 : decode prog_1_method_5_code 4 = .ok (.aload_n 0, 1) := by decide +kernel
theorem d33_5 : decode prog_1_method_5_code 5 = .ok (.getfield 16, 3) := by decide +kernel
theorem d33_8 : decode prog_1_method_5_code 8 = .ok (.arraylength, 1) := by decide +kernel
theorem d33_9 : decode prog_1_method_5_code 9 = .ok (.if_icmp .ne 54, 3) := by decide +kernel
theorem d33_63 : decode prog_1_method_5_code 63 = .ok (.aload_n 0, 1) := by decide +kernel
theorem d33_64 : decode prog_1_method_5_code 64 = .ok (.getfield 16, 3) := by decide +kernel
theorem d33_67 : decode prog_1_method_5_code 67 = .ok (.aload_n 0, 1) := by decide +kernel
theorem d33_68 : decode prog_1_method_5_code 68 = .ok (.getfield 97, 3) := by decide +kernel
theorem d33_71 : decode prog_1_method_5_code 71 = .ok (.iload_n 1, 1) := by decide +kernel
theorem d33_72 : decode prog_1_method_5_code 72 = .ok (.iastore, 1) := by decide +kernel
theorem d33_73 : decode prog_1_method_5_code 73 = .ok (.aload_n 0, 1) := by decide +kernel
theorem d33_74 : decode prog_1_method_5_code 74 = .ok (.getfield 20, 3) := by decide +kernel
theorem d33_77 : decode prog_1_method_5_code 77 = .ok (.aload_n 0, 1) := by decide +kernel
theorem d33_78 : decode prog_1_method_5_code 78 = .ok (.getfield 97, 3) := by decide +kernel
theorem d33_81 : decode prog_1_method_5_code 81 = .ok (.iload_n 2, 1) := by decide +kernel
theorem d33_82 : decode prog_1_method_5_code 82 = .ok (.iastore, 1) := by decide +kernel
theorem d33_83 : decode prog_1_method_5_code 83 = .ok (.aload_n 0, 1) := by decide +kernel
theorem d33_84 : decode prog_1_method_5_code 84 = .ok (.getfield 23, 3) := by decide +kernel
theorem d33_87 : decode prog_1_method_5_code 87 = .ok (.aload_n 0, 1) := by decide +kernel
theorem d33_88 : decode prog_1_method_5_code 88 = .ok (.getfield 97, 3) := by decide +kernel
theorem d33_91 : decode prog_1_method_5_code 91 = .ok (.iload_n 3, 1) := by decide +kernel
theorem d33_92 : decode prog_1_method_5_code 92 = .ok (.iastore, 1) := by decide +kernel
theorem d33_93 : decode prog_1_method_5_code 93 = .ok (.aload_n 0, 1) := by decide +kernel
theorem d33_94 : decode prog_1_method_5_code 94 = .ok (.dup, 1) := by decide +kernel
theorem d33_95 : decode prog_1_method_5_code 95 = .ok (.getfield 97, 3) := by decide +kernel
theorem d33_98 : decode prog_1_method_5_code 98 = .ok (.iconst 1, 1) := by decide +kernel
theorem d33_99 : decode prog_1_method_5_code 99 = .ok (.iadd, 1) := by decide +kernel
theorem d33_100 : decode prog_1_method_5_code 100 = .ok (.putfield 97, 3) := by decide +kernel
theorem d33_103 : decode prog_1_method_5_code 103 = .ok (.aload_n 0, 1) := by decide +kernel
theorem d33_104 : decode prog_1_method_5_code 104 = .ok (.getfield 97, 3) := by decide +kernel
theorem d33_107 : decode prog_1_method_5_code 107 = .ok (.iconst 2, 1) := by decide +kernel
theorem d33_108 : decode prog_1_method_5_code 108 = .ok (.imul, 1) := by decide +kernel
theorem d33_109 : decode prog_1_method_5_code 109 = .ok (.aload_n 0, 1) := by decide +kernel
theorem d33_110 : decode prog_1_method_5_code 110 = .ok (.getfield 26, 3) := by decide +kernel
theorem d33_113 : decode prog_1_method_5_code 113 = .ok (.arraylength, 1) := by decide +kernel
theorem d33_114 : decode prog_1_method_5_code 114 = .ok (.if_icmp .le 43, 3) := by decide +kernel
theorem d33_157 : decode prog_1_method_5_code 157 = .ok (.aload_n 0, 1) := by decide +kernel
theorem d33_158 : decode prog_1_method_5_code 158 = .ok (.aload_n 0, 1) := by decide +kernel
theorem d33_159 : decode prog_1_method_5_code 159 = .ok (.getfield 97, 3) := by decide +kernel
theorem d33_162 : decode prog_1_method_5_code 162 = .ok (.iconst 1, 1) := by decide +kernel
theorem d33_163 : decode prog_1_method_5_code 163 = .ok (.isub, 1) := by decide +kernel
theorem d33_164 : decode prog_1_method_5_code 164 = .ok (.invokevirtual 104, 3) := by decide +kernel
theorem d33_167 : decode prog_1_method_5_code 167 = .ok (.return_, 1) := by decide +kernel
theorem d34_0 : decode prog_1_method_6_code 0 = .ok (.aload_n 0, 1) := by decide +kernel
theorem d34_1 : decode prog_1_method_6_code 1 = .ok (.getfield 26, 3) := by decide +kernel
theorem d34_4 : decode prog_1_method_6_code 4 = .ok (.arraylength, 1) := by decide +kernel
theorem d34_5 : decode prog_1_method_6_code 5 = .ok (.iconst 1, 1) := by decide +kernel
theorem d34_6 : decode prog_1_method_6_code 6 = .ok (.isub, 1) := by decide +kernel
theorem d34_7 : decode prog_1_method_6_code 7 = .ok (.istore_n 2, 1) := by decide +kernel
theorem d34_8 : decode prog_1_method_6_code 8 = .ok (.aload_n 0, 1) := by decide +kernel
theorem d34_9 : decode prog_1_method_6_code 9 = .ok (.getfield 10, 3) := by decide +kernel
theorem d34_12 : decode prog_1_method_6_code 12 = .ok (.aload_n 0, 1) := by decide +kernel
theorem d34_13 : decode prog_1_method_6_code 13 = .ok (.getfield 16, 3) := by decide +kernel
theorem d34_16 : decode prog_1_method_6_code 16 = .ok (.iload_n 1, 1) := by decide +kernel
theorem d34_17 : decode prog_1_method_6_code 17 = .ok (.iaload, 1) := by decide +kernel
theorem d34_18 : decode prog_1_method_6_code 18 = .ok (.invokeinterface 68 2, 5) := by decide +kernel
theorem d34_23 : decode prog_1_method_6_code 23 = .ok (.checkcast 72, 3) := by decide +kernel
theorem d34_26 : decode prog_1_method_6_code 26 = .ok (.aload_n 0, 1) := by decide +kernel
theorem d34_27 : decode prog_1_method_6_code 27 = .ok (.getfield 20, 3) := by decide +kernel
theorem d34_30 : decode prog_1_method_6_code 30 = .ok (.iload_n 1, 1) := by decide +kernel
theorem d34_31 : decode prog_1_method_6_code 31 = .ok (.iaload, 1) := by decide +kernel
theorem d34_32 : decode prog_1_method_6_code 32 = .ok (.aload_n 0, 1) := by decide +kernel
theorem d34_33 : decode prog_1_method_6_code 33 = .ok (.getfield 23, 3) := by decide +kernel
theorem d34_36 : decode prog_1_method_6_code 36 = .ok (.iload_n 1, 1) := by decide +kernel
theorem d34_37 : decode prog_1_method_6_code 37 = .ok (.iaload, 1) := by decide +kernel
theorem d34_38 : decode prog_1_method_6_code 38 = .ok (.invokestatic 88, 3) := by decide +kernel
theorem d34_41 : decode prog_1_method_6_code 41 = .ok (.iload_n 2, 1) := by decide +kernel
theorem d34_42 : decode prog_1_method_6_code 42 = .ok (.iand, 1) := by decide +kernel
theorem d34_43 : decode prog_1_method_6_code 43 = .ok (.istore_n 3, 1) := by decide +kernel
theorem d34_44 : decode prog_1_method_6_code 44 = .ok (.aload_n 0, 1) := by decide +kernel
theorem d34_45 : decode prog_1_method_6_code 45 = .ok (.getfield 26, 3) := by decide +kernel
theorem d34_48 : decode prog_1_method_6_code 48 = .ok (.iload_n 3, 1) := by decide +kernel
theorem d34_49 : decode prog_1_method_6_code 49 = .ok (.iaload, 1) := by decide +kernel
theorem d34_50 : decode prog_1_method_6_code 50 = .ok (.ifCond .eq 12, 3) := by decide +kernel
theorem d34_53 : decode prog_1_method_6_code 53 = .ok (.iload_n 3, 1) := by decide +kernel
theorem d34_54 : decode prog_1_method_6_code 54 = .ok (.iconst 1, 1) := by decide +kernel
theorem d34_55 : decode prog_1_method_6_code 55 = .ok (.iadd, 1) := by decide +kernel
theorem d34_56 : decode prog_1_method_6_code 56 = .ok (.iload_n 2, 1) := by decide +kernel
theorem d34_57 : decode prog_1_method_6_code 57 = .ok (.iand, 1) := by decide +kernel
theorem d34_58 : decode prog_1_method_6_code 58 = .ok (.istore_n 3, 1) := by decide +kernel
theorem d34_59 : decode prog_1_method_6_code 59 = .ok (.goto (-15), 3) := by decide +kernel
theorem d34_62 : decode prog_1_method_6_code 62 = .ok (.aload_n 0, 1) := by decide +kernel
theorem d34_63 : decode prog_1_method_6_code 63 = .ok (.getfield 26, 3) := by decide +kernel
theorem d34_66 : decode prog_1_method_6_code 66 = .ok (.iload_n 3, 1) := by decide +kernel
theorem d34_67 : decode prog_1_method_6_code 67 = .ok (.iload_n 1, 1) := by decide +kernel
theorem d34_68 : decode prog_1_method_6_code 68 = .ok (.iconst 1, 1) := by decide +kernel
theorem d34_69 : decode prog_1_method_6_code 69 = .ok (.iadd, 1) := by decide +kernel
theorem d34_70 : decode prog_1_method_6_code 70 = .ok (.iastore, 1) := by decide +kernel
theorem d34_71 : decode prog_1_method_6_code 71 = .ok (.return_, 1) := by decide +kernel
theorem d35_0 : decode jdk_65_method_90_code 0 = .ok (.aload_n 0, 1) := by decide +kernel
theorem d35_1 : decode jdk_65_method_90_code 1 = .ok (.arraylength, 1) := by decide +kernel
theorem d35_2 : decode jdk_65_method_90_code 2 = .ok (.iload_n 1, 1) := by decide +kernel
theorem d35_3 : decode jdk_65_method_90_code 3 = .ok (.iload_n 2, 1) := by decide +kernel
theorem d35_4 : decode jdk_65_method_90_code 4 = .ok (.invokestatic 13, 3) := by decide +kernel
theorem d35_7 : decode jdk_65_method_90_code 7 = .ok (.aload_n 3, 1) := by decide +kernel
theorem d35_8 : decode jdk_65_method_90_code 8 = .ok (.arraylength, 1) := by decide +kernel
theorem d35_9 : decode jdk_65_method_90_code 9 = .ok (.iload 4, 2) := by decide +kernel
theorem d35_11 : decode jdk_65_method_90_code 11 = .ok (.iload 5, 2) := by decide +kernel
theorem d35_13 : decode jdk_65_method_90_code 13 = .ok (.invokestatic 13, 3) := by decide +kernel
theorem d35_16 : decode jdk_65_method_90_code 16 = .ok (.iload_n 2, 1) := by decide +kernel
theorem d35_17 : decode jdk_65_method_90_code 17 = .ok (.iload_n 1, 1) := by decide +kernel
theorem d35_18 : decode jdk_65_method_90_code 18 = .ok (.isub, 1) := by decide +kernel
theorem d35_19 : decode jdk_65_method_90_code 19 = .ok (.istore 6, 2) := by decide +kernel
theorem d35_21 : decode jdk_65_method_90_code 21 = .ok (.iload 5, 2) := by decide +kernel
theorem d35_23 : decode jdk_65_method_90_code 23 = .ok (.iload 4, 2) := by decide +kernel
theorem d35_25 : decode jdk_65_method_90_code 25 = .ok (.isub, 1) := by decide +kernel
theorem d35_26 : decode jdk_65_method_90_code 26 = .ok (.istore 7, 2) := by decide +kernel
theorem d35_28 : decode jdk_65_method_90_code 28 = .ok (.iload 6, 2) := by decide +kernel
theorem d35_30 : decode jdk_65_method_90_code 30 = .ok (.iload 7, 2) := by decide +kernel
theorem d35_32 : decode jdk_65_method_90_code 32 = .ok (.if_icmp .eq 5, 3) := by decide +kernel
theorem d35_35 : decode jdk_65_method_90_code 35 = .ok (.iconst 0, 1) := by decide +kernel
theorem d35_36 : decode jdk_65_method_90_code 36 = .ok (.ireturn, 1) := by decide +kernel
theorem d35_37 : decode jdk_65_method_90_code 37 = .ok (.aload_n 0, 1) := by decide +kernel
theorem d35_38 : decode jdk_65_method_90_code 38 = .ok (.iload_n 1, 1) := by decide +kernel
theorem d35_39 : decode jdk_65_method_90_code 39 = .ok (.aload_n 3, 1) := by decide +kernel
theorem d35_40 : decode jdk_65_method_90_code 40 = .ok (.iload 4, 2) := by decide +kernel
theorem d35_42 : decode jdk_65_method_90_code 42 = .ok (.iload 6, 2) := by decide +kernel
theorem d35_44 : decode jdk_65_method_90_code 44 = .ok (.invokestatic 275, 3) := by decide +kernel
theorem d35_47 : decode jdk_65_method_90_code 47 = .ok (.ifCond .ge 7, 3) := by decide +kernel
theorem d35_50 : decode jdk_65_method_90_code 50 = .ok (.iconst 1, 1) := by decide +kernel
theorem d35_51 : decode jdk_65_method_90_code 51 = .ok (.goto 4, 3) := by decide +kernel
theorem d35_54 : decode jdk_65_method_90_code 54 = .ok (.iconst 0, 1) := by decide +kernel
theorem d35_55 : decode jdk_65_method_90_code 55 = .ok (.ireturn, 1) := by decide +kernel
theorem d36_0 : decode jdk_65_method_30_code 0 = .ok (.iload_n 1, 1) := by decide +kernel
theorem d36_1 : decode jdk_65_method_30_code 1 = .ok (.iload_n 2, 1) := by decide +kernel
theorem d36_2 : decode jdk_65_method_30_code 2 = .ok (.if_icmp .le 44, 3) := by decide +kernel
theorem d36_46 : decode jdk_65_method_30_code 46 = .ok (.iload_n 1, 1) := by decide +kernel
theorem d36_47 : decode jdk_65_method_30_code 47 = .ok (.ifCond .ge 12, 3) := by decide +kernel
theorem d36_59 : decode jdk_65_method_30_code 59 = .ok (.iload_n 2, 1) := by decide +kernel
theorem d36_60 : decode jdk_65_method_30_code 60 = .ok (.iload_n 0, 1) := by decide +kernel
theorem d36_61 : decode jdk_65_method_30_code 61 = .ok (.if_icmp .le 12, 3) := by decide +kernel
theorem d36_73 : decode jdk_65_method_30_code 73 = .ok (.return_, 1) := by decide +kernel
theorem d37_0 : decode jdk_48_method_14_code 0 = .ok (.iconst 0, 1) := by decide +kernel
theorem d37_1 : decode jdk_48_method_14_code 1 = .ok (.istore 5, 2) := by decide +kernel
theorem d37_3 : decode jdk_48_method_14_code 3 = .ok (.iload 4, 2) := by decide +kernel
theorem d37_5 : decode jdk_48_method_14_code 5 = .ok (.bipush 7, 2) := by decide +kernel
theorem d37_7 : decode jdk_48_method_14_code 7 = .ok (.if_icmp .le 63, 3) := by decide +kernel
theorem d37_70 : decode jdk_48_method_14_code 70 = .ok (.iload 5, 2) := by decide +kernel
theorem d37_72 : decode jdk_48_method_14_code 72 = .ok (.iload 4, 2) := by decide +kernel
theorem d37_74 : decode jdk_48_method_14_code 74 = .ok (.if_icmp .ge 27, 3) := by decide +kernel
theorem d37_77 : decode jdk_48_method_14_code 77 = .ok (.aload_n 0, 1) := by decide +kernel
theorem d37_78 : decode jdk_48_method_14_code 78 = .ok (.iload_n 1, 1) := by decide +kernel
theorem d37_79 : decode jdk_48_method_14_code 79 = .ok (.iload 5, 2) := by decide +kernel
theorem d37_81 : decode jdk_48_method_14_code 81 = .ok (.iadd, 1) := by decide +kernel
theorem d37_82 : decode jdk_48_method_14_code 82 = .ok (.baload, 1) := by decide +kernel
theorem d37_83 : decode jdk_48_method_14_code 83 = .ok (.aload_n 2, 1) := by decide +kernel
theorem d37_84 : decode jdk_48_method_14_code 84 = .ok (.iload_n 3, 1) := by decide +kernel
theorem d37_85 : decode jdk_48_method_14_code 85 = .ok (.iload 5, 2) := by decide +kernel
theorem d37_87 : decode jdk_48_method_14_code 87 = .ok (.iadd, 1) := by decide +kernel
theorem d37_88 : decode jdk_48_method_14_code 88 = .ok (.baload, 1) := by decide +kernel
theorem d37_89 : decode jdk_48_method_14_code 89 = .ok (.if_icmp .eq 6, 3) := by decide +kernel
theorem d37_92 : decode jdk_48_method_14_code 92 = .ok (.iload 5, 2) := by decide +kernel
theorem d37_94 : decode jdk_48_method_14_code 94 = .ok (.ireturn, 1) := by decide +kernel
theorem d37_95 : decode jdk_48_method_14_code 95 = .ok (.iinc 5 1, 3) := by decide +kernel
theorem d37_98 : decode jdk_48_method_14_code 98 = .ok (.goto (-28), 3) := by decide +kernel
theorem d37_101 : decode jdk_48_method_14_code 101 = .ok (.iconst (-1), 1) := by decide +kernel
theorem d37_102 : decode jdk_48_method_14_code 102 = .ok (.ireturn, 1) := by decide +kernel
theorem d38_0 : decode jdk_42_method_66_code 0 = .ok (.aload_n 0, 1) := by decide +kernel
theorem d38_1 : decode jdk_42_method_66_code 1 = .ok (.aload_n 1, 1) := by decide +kernel
theorem d38_2 : decode jdk_42_method_66_code 2 = .ok (.if_acmp .ne 5, 3) := by decide +kernel
theorem d38_5 : decode jdk_42_method_66_code 5 = .ok (.iconst 1, 1) := by decide +kernel
theorem d38_6 : decode jdk_42_method_66_code 6 = .ok (.ireturn, 1) := by decide +kernel
theorem d38_7 : decode jdk_42_method_66_code 7 = .ok (.aload_n 1, 1) := by decide +kernel
theorem d38_8 : decode jdk_42_method_66_code 8 = .ok (.instanceof 10, 3) := by decide +kernel
theorem d38_11 : decode jdk_42_method_66_code 11 = .ok (.ifCond .eq 43, 3) := by decide +kernel
theorem d38_14 : decode jdk_42_method_66_code 14 = .ok (.aload_n 1, 1) := by decide +kernel
theorem d38_15 : decode jdk_42_method_66_code 15 = .ok (.checkcast 10, 3) := by decide +kernel
theorem d38_18 : decode jdk_42_method_66_code 18 = .ok (.astore_n 2, 1) := by decide +kernel
theorem d38_19 : decode jdk_42_method_66_code 19 = .ok (.getstatic 38, 3) := by decide +kernel
theorem d38_22 : decode jdk_42_method_66_code 22 = .ok (.ifCond .eq 14, 3) := by decide +kernel
theorem d38_25 : decode jdk_42_method_66_code 25 = .ok (.aload_n 0, 1) := by decide +kernel
theorem d38_26 : decode jdk_42_method_66_code 26 = .ok (.getfield 15, 3) := by decide +kernel
theorem d38_29 : decode jdk_42_method_66_code 29 = .ok (.aload_n 2, 1) := by decide +kernel
theorem d38_30 : decode jdk_42_method_66_code 30 = .ok (.getfield 15, 3) := by decide +kernel
theorem d38_33 : decode jdk_42_method_66_code 33 = .ok (.if_icmp .ne 21, 3) := by decide +kernel
theorem d38_36 : decode jdk_42_method_66_code 36 = .ok (.aload_n 0, 1) := by decide +kernel
theorem d38_37 : decode jdk_42_method_66_code 37 = .ok (.getfield 9, 3) := by decide +kernel
theorem d38_40 : decode jdk_42_method_66_code 40 = .ok (.aload_n 2, 1) := by decide +kernel
theorem d38_41 : decode jdk_42_method_66_code 41 = .ok (.getfield 9, 3) := by decide +kernel
theorem d38_44 : decode jdk_42_method_66_code 44 = .ok (.invokestatic 541, 3) := by decide +kernel
theorem d38_47 : decode jdk_42_method_66_code 47 = .ok (.ifCond .eq 7, 3) := by decide +kernel
theorem d38_50 : decode jdk_42_method_66_code 50 = .ok (.iconst 1, 1) := by decide +kernel
theorem d38_51 : decode jdk_42_method_66_code 51 = .ok (.goto 4, 3) := by decide +kernel
theorem d38_54 : decode jdk_42_method_66_code 54 = .ok (.iconst 0, 1) := by decide +kernel
theorem d38_55 : decode jdk_42_method_66_code 55 = .ok (.ireturn, 1) := by decide +kernel
theorem d39_0 : decode jdk_42_method_3_code 0 = .ok (.aload_n 0, 1) := by decide +kernel
theorem d39_1 : decode jdk_42_method_3_code 1 = .ok (.aload_n 1, 1) := by decide +kernel
theorem d39_2 : decode jdk_42_method_3_code 2 = .ok (.iconst 0, 1) := by decide +kernel
theorem d39_3 : decode jdk_42_method_3_code 3 = .ok (.aload_n 1, 1) := by decide +kernel
theorem d39_4 : decode jdk_42_method_3_code 4 = .ok (.arraylength, 1) := by decide +kernel
theorem d39_5 : decode jdk_42_method_3_code 5 = .ok (.aconst_null, 1) := by decide +kernel
theorem d39_6 : decode jdk_42_method_3_code 6 = .ok (.invokespecial 27, 3) := by decide +kernel
theorem d39_9 : decode jdk_42_method_3_code 9 = .ok (.return_, 1) := by decide +kernel
theorem d40_0 : decode jdk_42_method_149_code 0 = .ok (.aload_n 0, 1) := by decide +kernel
theorem d40_1 : decode jdk_42_method_149_code 1 = .ok (.invokespecial 1, 3) := by decide +kernel
theorem d40_4 : decode jdk_42_method_149_code 4 = .ok (.iload_n 3, 1) := by decide +kernel
theorem d40_5 : decode jdk_42_method_149_code 5 = .ok (.ifCond .ne 22, 3) := by decide +kernel
theorem d40_27 : decode jdk_42_method_149_code 27 = .ok (.getstatic 38, 3) := by decide +kernel
theorem d40_30 : decode jdk_42_method_149_code 30 = .ok (.ifCond .eq 28, 3) := by decide +kernel
theorem d40_33 : decode jdk_42_method_149_code 33 = .ok (.aload_n 1, 1) := by decide +kernel
theorem d40_34 : decode jdk_42_method_149_code 34 = .ok (.iload_n 2, 1) := by decide +kernel
theorem d40_35 : decode jdk_42_method_149_code 35 = .ok (.iload_n 3, 1) := by decide +kernel
theorem d40_36 : decode jdk_42_method_149_code 36 = .ok (.invokestatic 177, 3) := by decide +kernel
theorem d40_39 : decode jdk_42_method_149_code 39 = .ok (.astore 5, 2) := by decide +kernel
theorem d40_41 : decode jdk_42_method_149_code 41 = .ok (.aload_n 0, 1) := by decide +kernel
theorem d40_42 : decode jdk_42_method_149_code 42 = .ok (.aload 5, 2) := by decide +kernel
theorem d40_44 : decode jdk_42_method_149_code 44 = .ok (.iload_n 3, 1) := by decide +kernel
theorem d40_45 : decode jdk_42_method_149_code 45 = .ok (.invokestatic 47, 3) := by decide +kernel
theorem d40_48 : decode jdk_42_method_149_code 48 = .ok (.putfield 15, 3) := by decide +kernel
theorem d40_51 : decode jdk_42_method_149_code 51 = .ok (.aload_n 0, 1) := by decide +kernel
theorem d40_52 : decode jdk_42_method_149_code 52 = .ok (.aload 5, 2) := by decide +kernel
theorem d40_54 : decode jdk_42_method_149_code 54 = .ok (.putfield 9, 3) := by decide +kernel
theorem d40_57 : decode jdk_42_method_149_code 57 = .ok (.return_, 1) := by decide +kernel
theorem d41_0 : decode jdk_52_method_16_code 0 = .ok (.iload_n 2, 1) := by decide +kernel
theorem d41_1 : decode jdk_52_method_16_code 1 = .ok (.newarray .byte, 2) := by decide +kernel
theorem d41_3 : decode jdk_52_method_16_code 3 = .ok (.astore_n 3, 1) := by decide +kernel
theorem d41_4 : decode jdk_52_method_16_code 4 = .ok (.aload_n 0, 1) := by decide +kernel
theorem d41_5 : decode jdk_52_method_16_code 5 = .ok (.iload_n 1, 1) := by decide +kernel
theorem d41_6 : decode jdk_52_method_16_code 6 = .ok (.aload_n 3, 1) := by decide +kernel
theorem d41_7 : decode jdk_52_method_16_code 7 = .ok (.iconst 0, 1) := by decide +kernel
theorem d41_8 : decode jdk_52_method_16_code 8 = .ok (.iload_n 2, 1) := by decide +kernel
theorem d41_9 : decode jdk_52_method_16_code 9 = .ok (.invokestatic 115, 3) := by decide +kernel
theorem d41_12 : decode jdk_52_method_16_code 12 = .ok (.istore 4, 2) := by decide +kernel
theorem d41_14 : decode jdk_52_method_16_code 14 = .ok (.iload 4, 2) := by decide +kernel
theorem d41_16 : decode jdk_52_method_16_code 16 = .ok (.iload_n 2, 1) := by decide +kernel
theorem d41_17 : decode jdk_52_method_16_code 17 = .ok (.if_icmp .eq 40, 3) := by decide +kernel
theorem d41_57 : decode jdk_52_method_16_code 57 = .ok (.aload_n 3, 1) := by decide +kernel
theorem d41_58 : decode jdk_52_method_16_code 58 = .ok (.areturn, 1) := by decide +kernel
theorem d42_0 : decode jdk_52_method_21_code 0 = .ok (.iconst 0, 1) := by decide +kernel
theorem d42_1 : decode jdk_52_method_21_code 1 = .ok (.istore 5, 2) := by decide +kernel
theorem d42_3 : decode jdk_52_method_21_code 3 = .ok (.iload 5, 2) := by decide +kernel
theorem d42_5 : decode jdk_52_method_21_code 5 = .ok (.iload 4, 2) := by decide +kernel
theorem d42_7 : decode jdk_52_method_21_code 7 = .ok (.if_icmp .ge 37, 3) := by decide +kernel
theorem d42_10 : decode jdk_52_method_21_code 10 = .ok (.aload_n 0, 1) := by decide +kernel
theorem d42_11 : decode jdk_52_method_21_code 11 = .ok (.iload_n 1, 1) := by decide +kernel
theorem d42_12 : decode jdk_52_method_21_code 12 = .ok (.caload, 1) := by decide +kernel
theorem d42_13 : decode jdk_52_method_21_code 13 = .ok (.istore 6, 2) := by decide +kernel
theorem d42_15 : decode jdk_52_method_21_code 15 = .ok (.iload 6, 2) := by decide +kernel
theorem d42_17 : decode jdk_52_method_21_code 17 = .ok (.sipush 255, 3) := by decide +kernel
theorem d42_20 : decode jdk_52_method_21_code 20 = .ok (.if_icmp .le 6, 3) := by decide +kernel
theorem d42_26 : decode jdk_52_method_21_code 26 = .ok (.aload_n 2, 1) := by decide +kernel
theorem d42_27 : decode jdk_52_method_21_code 27 = .ok (.iload_n 3, 1) := by decide +kernel
theorem d42_28 : decode jdk_52_method_21_code 28 = .ok (.iload 6, 2) := by decide +kernel
theorem d42_30 : decode jdk_52_method_21_code 30 = .ok (.i2b, 1) := by decide +kernel
theorem d42_31 : decode jdk_52_method_21_code 31 = .ok (.bastore, 1) := by decide +kernel
theorem d42_32 : decode jdk_52_method_21_code 32 = .ok (.iinc 1 1, 3) := by decide +kernel
theorem d42_35 : decode jdk_52_method_21_code 35 = .ok (.iinc 3 1, 3) := by decide +kernel
theorem d42_38 : decode jdk_52_method_21_code 38 = .ok (.iinc 5 1, 3) := by decide +kernel
theorem d42_41 : decode jdk_52_method_21_code 41 = .ok (.goto (-38), 3) := by decide +kernel
theorem d42_44 : decode jdk_52_method_21_code 44 = .ok (.iload 4, 2) := by decide +kernel
theorem d42_46 : decode jdk_52_method_21_code 46 = .ok (.ireturn, 1) := by decide +kernel
theorem d43_0 : decode jdk_52_method_15_code 0 = .ok (.iload_n 1, 1) := by decide +kernel
theorem d43_1 : decode jdk_52_method_15_code 1 = .ok (.aload_n 0, 1) := by decide +kernel
theorem d43_2 : decode jdk_52_method_15_code 2 = .ok (.arraylength, 1) := by decide +kernel
theorem d43_3 : decode jdk_52_method_15_code 3 = .ok (.isub, 1) := by decide +kernel
theorem d43_4 : decode jdk_52_method_15_code 4 = .ok (.bipush 31, 2) := by decide +kernel
theorem d43_6 : decode jdk_52_method_15_code 6 = .ok (.iushr, 1) := by decide +kernel
theorem d43_7 : decode jdk_52_method_15_code 7 = .ok (.i2b, 1) := by decide +kernel
theorem d43_8 : decode jdk_52_method_15_code 8 = .ok (.ireturn, 1) := by decide +kernel
theorem d44_0 : decode jdk_42_method_139_code 0 = .ok (.getstatic 38, 3) := by decide +kernel
theorem d44_3 : decode jdk_42_method_139_code 3 = .ok (.ifCond .eq 23, 3) := by decide +kernel
theorem d44_6 : decode jdk_42_method_139_code 6 = .ok (.iload_n 0, 1) := by decide +kernel
theorem d44_7 : decode jdk_42_method_139_code 7 = .ok (.invokestatic 1015, 3) := by decide +kernel
theorem d44_10 : decode jdk_42_method_139_code 10 = .ok (.ifCond .eq 16, 3) := by decide +kernel
theorem d44_13 : decode jdk_42_method_139_code 13 = .ok (.new 10, 3) := by decide +kernel
theorem d44_16 : decode jdk_42_method_139_code 16 = .ok (.dup, 1) := by decide +kernel
theorem d44_17 : decode jdk_42_method_139_code 17 = .ok (.iload_n 0, 1) := by decide +kernel
theorem d44_18 : decode jdk_42_method_139_code 18 = .ok (.invokestatic 1018, 3) := by decide +kernel
theorem d44_21 : decode jdk_42_method_139_code 21 = .ok (.iconst 0, 1) := by decide +kernel
theorem d44_22 : decode jdk_42_method_139_code 22 = .ok (.invokespecial 209, 3) := by decide +kernel
theorem d44_25 : decode jdk_42_method_139_code 25 = .ok (.areturn, 1) := by decide +kernel
theorem d45_0 : decode jdk_43_method_3_code 0 = .ok (.iload_n 0, 1) := by decide +kernel
theorem d45_1 : decode jdk_43_method_3_code 1 = .ok (.sipush 255, 3) := by decide +kernel
theorem d45_4 : decode jdk_43_method_3_code 4 = .ok (.if_icmp .gt 7, 3) := by decide +kernel
theorem d45_7 : decode jdk_43_method_3_code 7 = .ok (.iconst 1, 1) := by decide +kernel
theorem d45_8 : decode jdk_43_method_3_code 8 = .ok (.goto 4, 3) := by decide +kernel
theorem d45_12 : decode jdk_43_method_3_code 12 = .ok (.ireturn, 1) := by decide +kernel
theorem d46_0 : decode jdk_43_method_46_code 0 = .ok (.iconst 1, 1) := by decide +kernel
theorem d46_1 : decode jdk_43_method_46_code 1 = .ok (.newarray .byte, 2) := by decide +kernel
theorem d46_3 : decode jdk_43_method_46_code 3 = .ok (.dup, 1) := by decide +kernel
theorem d46_4 : decode jdk_43_method_46_code 4 = .ok (.iconst 0, 1) := by decide +kernel
theorem d46_5 : decode jdk_43_method_46_code 5 = .ok (.iload_n 0, 1) := by decide +kernel
theorem d46_6 : decode jdk_43_method_46_code 6 = .ok (.i2b, 1) := by decide +kernel
theorem d46_7 : decode jdk_43_method_46_code 7 = .ok (.bastore, 1) := by decide +kernel
theorem d46_8 : decode jdk_43_method_46_code 8 = .ok (.areturn, 1) := by decide +kernel
theorem d47_0 : decode jdk_42_method_151_code 0 = .ok (.aload_n 0, 1) := by decide +kernel
theorem d47_1 : decode jdk_42_method_151_code 1 = .ok (.invokespecial 1, 3) := by decide +kernel
theorem d47_4 : decode jdk_42_method_151_code 4 = .ok (.aload_n 0, 1) := by decide +kernel
theorem d47_5 : decode jdk_42_method_151_code 5 = .ok (.aload_n 1, 1) := by decide +kernel
theorem d47_6 : decode jdk_42_method_151_code 6 = .ok (.putfield 9, 3) := by decide +kernel
theorem d47_9 : decode jdk_42_method_151_code 9 = .ok (.aload_n 0, 1) := by decide +kernel
theorem d47_10 : decode jdk_42_method_151_code 10 = .ok (.iload_n 2, 1) := by decide +kernel
theorem d47_11 : decode jdk_42_method_151_code 11 = .ok (.putfield 15, 3) := by decide +kernel
theorem d47_14 : decode jdk_42_method_151_code 14 = .ok (.return_, 1) := by decide +kernel
theorem d48_0 : decode jdk_52_method_2_code 0 = .ok (.iload_n 0, 1) := by decide +kernel
theorem d48_1 : decode jdk_52_method_2_code 1 = .ok (.invokestatic 11, 3) := by decide +kernel
theorem d48_4 : decode jdk_52_method_2_code 4 = .ok (.newarray .byte, 2) := by decide +kernel
theorem d48_6 : decode jdk_52_method_2_code 6 = .ok (.areturn, 1) := by decide +kernel
theorem d49_0 : decode jdk_52_method_3_code 0 = .ok (.iload_n 0, 1) := by decide +kernel
theorem d49_1 : decode jdk_52_method_3_code 1 = .ok (.ifCond .ge 11, 3) := by decide +kernel
theorem d49_12 : decode jdk_52_method_3_code 12 = .ok (.iload_n 0, 1) := by decide +kernel
theorem d49_13 : decode jdk_52_method_3_code 13 = .ok (.ldc 20, 2) := by decide +kernel
theorem d49_15 : decode jdk_52_method_3_code 15 = .ok (.if_icmp .lt 40, 3) := by decide +kernel
theorem d49_55 : decode jdk_52_method_3_code 55 = .ok (.iload_n 0, 1) := by decide +kernel
theorem d49_56 : decode jdk_52_method_3_code 56 = .ok (.iconst 1, 1) := by decide +kernel
theorem d49_57 : decode jdk_52_method_3_code 57 = .ok (.ishl, 1) := by decide +kernel
theorem d49_58 : decode jdk_52_method_3_code 58 = .ok (.ireturn, 1) := by decide +kernel
theorem d50_0 : decode jdk_65_method_121_code 0 = .ok (.iload_n 1, 1) := by decide +kernel
theorem d50_1 : decode jdk_65_method_121_code 1 = .ok (.aload_n 0, 1) := by decide +kernel
theorem d50_2 : decode jdk_65_method_121_code 2 = .ok (.arraylength, 1) := by decide +kernel
theorem d50_3 : decode jdk_65_method_121_code 3 = .ok (.if_icmp .ne 11, 3) := by decide +kernel
theorem d50_14 : decode jdk_65_method_121_code 14 = .ok (.iload_n 1, 1) := by decide +kernel
theorem d50_15 : decode jdk_65_method_121_code 15 = .ok (.newarray .byte, 2) := by decide +kernel
theorem d50_17 : decode jdk_65_method_121_code 17 = .ok (.astore_n 2, 1) := by decide +kernel
theorem d50_18 : decode jdk_65_method_121_code 18 = .ok (.aload_n 0, 1) := by decide +kernel
theorem d50_19 : decode jdk_65_method_121_code 19 = .ok (.iconst 0, 1) := by decide +kernel
theorem d50_20 : decode jdk_65_method_121_code 20 = .ok (.aload_n 2, 1) := by decide +kernel
theorem d50_21 : decode jdk_65_method_121_code 21 = .ok (.iconst 0, 1) := by decide +kernel
theorem d50_22 : decode jdk_65_method_121_code 22 = .ok (.aload_n 0, 1) := by decide +kernel
theorem d50_23 : decode jdk_65_method_121_code 23 = .ok (.arraylength, 1) := by decide +kernel
theorem d50_24 : decode jdk_65_method_121_code 24 = .ok (.iload_n 1, 1) := by decide +kernel
theorem d50_25 : decode jdk_65_method_121_code 25 = .ok (.invokestatic 304, 3) := by decide +kernel
theorem d50_28 : decode jdk_65_method_121_code 28 = .ok (.invokestatic 150, 3) := by decide +kernel
theorem d50_31 : decode jdk_65_method_121_code 31 = .ok (.aload_n 2, 1) := by decide +kernel
theorem d50_32 : decode jdk_65_method_121_code 32 = .ok (.areturn, 1) := by decide +kernel
theorem d51_0 : decode jdk_29_method_69_code 0 = .ok (.iload_n 0, 1) := by decide +kernel
theorem d51_1 : decode jdk_29_method_69_code 1 = .ok (.iload_n 1, 1) := by decide +kernel
theorem d51_2 : decode jdk_29_method_69_code 2 = .ok (.if_icmp .gt 7, 3) := by decide +kernel
theorem d51_9 : decode jdk_29_method_69_code 9 = .ok (.iload_n 1, 1) := by decide +kernel
theorem d51_10 : decode jdk_29_method_69_code 10 = .ok (.ireturn, 1) := by decide +kernel
theorem d52_0 : decode jdk_43_method_13_code 0 = .ok (.aload_n 0, 1) := by decide +kernel
theorem d52_1 : decode jdk_43_method_13_code 1 = .ok (.arraylength, 1) := by decide +kernel
theorem d52_2 : decode jdk_43_method_13_code 2 = .ok (.aload_n 1, 1) := by decide +kernel
theorem d52_3 : decode jdk_43_method_13_code 3 = .ok (.arraylength, 1) := by decide +kernel
theorem d52_4 : decode jdk_43_method_13_code 4 = .ok (.if_icmp .ne 30, 3) := by decide +kernel
theorem d52_7 : decode jdk_43_method_13_code 7 = .ok (.iconst 0, 1) := by decide +kernel
theorem d52_8 : decode jdk_43_method_13_code 8 = .ok (.istore_n 2, 1) := by decide +kernel
theorem d52_9 : decode jdk_43_method_13_code 9 = .ok (.iload_n 2, 1) := by decide +kernel
theorem d52_10 : decode jdk_43_method_13_code 10 = .ok (.aload_n 0, 1) := by decide +kernel
theorem d52_11 : decode jdk_43_method_13_code 11 = .ok (.arraylength, 1) := by decide +kernel
theorem d52_12 : decode jdk_43_method_13_code 12 = .ok (.if_icmp .ge 20, 3) := by decide +kernel
theorem d52_15 : decode jdk_43_method_13_code 15 = .ok (.aload_n 0, 1) := by decide +kernel
theorem d52_16 : decode jdk_43_method_13_code 16 = .ok (.iload_n 2, 1) := by decide +kernel
theorem d52_17 : decode jdk_43_method_13_code 17 = .ok (.baload, 1) := by decide +kernel
theorem d52_18 : decode jdk_43_method_13_code 18 = .ok (.aload_n 1, 1) := by decide +kernel
theorem d52_19 : decode jdk_43_method_13_code 19 = .ok (.iload_n 2, 1) := by decide +kernel
theorem d52_20 : decode jdk_43_method_13_code 20 = .ok (.baload, 1) := by decide +kernel
theorem d52_21 : decode jdk_43_method_13_code 21 = .ok (.if_icmp .eq 5, 3) := by decide +kernel
theorem d52_24 : decode jdk_43_method_13_code 24 = .ok (.iconst 0, 1) := by decide +kernel
theorem d52_25 : decode jdk_43_method_13_code 25 = .ok (.ireturn, 1) := by decide +kernel
theorem d52_26 : decode jdk_43_method_13_code 26 = .ok (.iinc 2 1, 3) := by decide +kernel
theorem d52_29 : decode jdk_43_method_13_code 29 = .ok (.goto (-20), 3) := by decide +kernel
theorem d52_32 : decode jdk_43_method_13_code 32 = .ok (.iconst 1, 1) := by decide +kernel
theorem d52_33 : decode jdk_43_method_13_code 33 = .ok (.ireturn, 1) := by decide +kernel
theorem d52_34 : decode jdk_43_method_13_code 34 = .ok (.iconst 0, 1) := by decide +kernel
theorem d52_35 : decode jdk_43_method_13_code 35 = .ok (.ireturn, 1) := by decide +kernel
theorem pd0 : parseMethodDescriptor "([B[B)Z" = some ⟨[(.array .byte), (.array .byte)], some .boolean⟩ := by decide +kernel
theorem pd1 : parseMethodDescriptor "([CI[BII)I" = some ⟨[(.array .char), .int, (.array .byte), .int, .int], some .int⟩ := by decide +kernel
theorem pd2 : parseMethodDescriptor "([CII)[B" = some ⟨[(.array .char), .int, .int], some (.array .byte)⟩ := by decide +kernel
theorem pd3 : parseMethodDescriptor "([BI)B" = some ⟨[(.array .byte), .int], some .byte⟩ := by decide +kernel
theorem pd4 : parseMethodDescriptor "([CIILjava/lang/Void;)V" = some ⟨[(.array .char), .int, .int, (.object "java/lang/Void")], none⟩ := by decide +kernel
theorem pd5 : parseMethodDescriptor "(C)Z" = some ⟨[.char], some .boolean⟩ := by decide +kernel
theorem pd6 : parseMethodDescriptor "(C)[B" = some ⟨[.char], some (.array .byte)⟩ := by decide +kernel
theorem pd7 : parseMethodDescriptor "([BB)V" = some ⟨[(.array .byte), .byte], none⟩ := by decide +kernel
theorem pd8 : parseMethodDescriptor "([C)V" = some ⟨[(.array .char)], none⟩ := by decide +kernel
theorem pd9 : parseMethodDescriptor "(C)Ljava/lang/String;" = some ⟨[.char], some (.object "java/lang/String")⟩ := by decide +kernel
theorem pd10 : parseMethodDescriptor "([BII)I" = some ⟨[(.array .byte), .int, .int], some .int⟩ := by decide +kernel
theorem pd11 : parseMethodDescriptor "(I)I" = some ⟨[.int], some .int⟩ := by decide +kernel
theorem pd12 : parseMethodDescriptor "(II)I" = some ⟨[.int, .int], some .int⟩ := by decide +kernel
theorem pd13 : parseMethodDescriptor "([BI)[B" = some ⟨[(.array .byte), .int], some (.array .byte)⟩ := by decide +kernel
theorem pd14 : parseMethodDescriptor "([BII)Z" = some ⟨[(.array .byte), .int, .int], some .boolean⟩ := by decide +kernel
theorem pd15 : parseMethodDescriptor "(I)[B" = some ⟨[.int], some (.array .byte)⟩ := by decide +kernel
theorem pd16 : parseMethodDescriptor "(B[BZ)[B" = some ⟨[.byte, (.array .byte), .boolean], some (.array .byte)⟩ := by decide +kernel
theorem pd17 : parseMethodDescriptor "()B" = some ⟨[], some .byte⟩ := by decide +kernel
theorem pd18 : parseMethodDescriptor "(Ljava/nio/charset/Charset;B[B)[B" = some ⟨[(.object "java/nio/charset/Charset"), .byte, (.array .byte)], some (.array .byte)⟩ := by decide +kernel
theorem pd19 : parseMethodDescriptor "()V" = some ⟨[], none⟩ := by decide +kernel
theorem pd20 : parseMethodDescriptor "(I)[Ljava/lang/Object;" = some ⟨[.int], some (.array (.object "java/lang/Object"))⟩ := by decide +kernel
theorem pd21 : parseMethodDescriptor "()[Ljava/lang/Object;" = some ⟨[], some (.array (.object "java/lang/Object"))⟩ := by decide +kernel
theorem pd22 : parseMethodDescriptor "(Ljava/lang/Object;[Ljava/lang/Object;I)V" = some ⟨[(.object "java/lang/Object"), (.array (.object "java/lang/Object")), .int], none⟩ := by decide +kernel
theorem pd23 : parseMethodDescriptor "(IILjava/util/function/BiFunction;)I" = some ⟨[.int, .int, (.object "java/util/function/BiFunction")], some .int⟩ := by decide +kernel
theorem pd24 : parseMethodDescriptor "(I)Ljava/lang/Object;" = some ⟨[.int], some (.object "java/lang/Object")⟩ := by decide +kernel
theorem pd25 : parseMethodDescriptor "(Ljava/util/ArrayList;)V" = some ⟨[(.object "java/util/ArrayList")], none⟩ := by decide +kernel
theorem pd26 : parseMethodDescriptor "(III)V" = some ⟨[.int, .int, .int], none⟩ := by decide +kernel
theorem pd27 : parseMethodDescriptor "([BI[BII)I" = some ⟨[(.array .byte), .int, (.array .byte), .int, .int], some .int⟩ := by decide +kernel
theorem pd28 : parseMethodDescriptor "([BII[BII)Z" = some ⟨[(.array .byte), .int, .int, (.array .byte), .int, .int], some .boolean⟩ := by decide +kernel
theorem pd29 : parseMethodDescriptor "(I)V" = some ⟨[.int], none⟩ := by decide +kernel
theorem pd30 : parseMethodDescriptor "(Ljava/nio/charset/Charset;)[B" = some ⟨[(.object "java/nio/charset/Charset")], some (.array .byte)⟩ := by decide +kernel
theorem pd31 : parseMethodDescriptor "()I" = some ⟨[], some .int⟩ := by decide +kernel
theorem pd32 : parseMethodDescriptor "()Z" = some ⟨[], some .boolean⟩ := by decide +kernel
theorem pd33 : parseMethodDescriptor "(Ljava/lang/Object;)Z" = some ⟨[(.object "java/lang/Object")], some .boolean⟩ := by decide +kernel
theorem pd34 : parseMethodDescriptor "()Ljava/lang/Object;" = some ⟨[], some (.object "java/lang/Object")⟩ := by decide +kernel
theorem pd35 : parseMethodDescriptor "()Ljava/util/Iterator;" = some ⟨[], some (.object "java/util/Iterator")⟩ := by decide +kernel
theorem pd36 : parseMethodDescriptor "(I)Ljava/lang/String;" = some ⟨[.int], some (.object "java/lang/String")⟩ := by decide +kernel
theorem pd37 : parseMethodDescriptor "(Ljava/lang/String;)I" = some ⟨[(.object "java/lang/String")], some .int⟩ := by decide +kernel
theorem pd38 : parseMethodDescriptor "(Ljava/util/List;)I" = some ⟨[(.object "java/util/List")], some .int⟩ := by decide +kernel
theorem pn0 : plainName "java/lang/StringLatin1" = true := by first | (simp [plainName, overriddenIn]; done) | decide +kernel
theorem pn1 : plainName "java/lang/String" = true := by first | (simp [plainName, overriddenIn]; done) | decide +kernel
theorem pn2 : plainName "java/lang/StringUTF16" = true := by first | (simp [plainName, overriddenIn]; done) | decide +kernel
theorem pn3 : plainName "com/example/recordweave/recordweave/store/KeyIndexFileOfPinLaw" = true := by first | (simp [plainName, overriddenIn]; done) | decide +kernel
theorem pn4 : plainName "java/lang/StringCoding" = true := by first | (simp [plainName, overriddenIn]; done) | decide +kernel
theorem pn5 : plainName "java/util/Arrays" = true := by first | (simp [plainName, overriddenIn]; done) | decide +kernel
theorem pn6 : plainName "java/util/AbstractCollection" = true := by first | (simp [plainName, overriddenIn]; done) | decide +kernel
theorem pn7 : plainName "java/util/AbstractList" = true := by first | (simp [plainName, overriddenIn]; done) | decide +kernel
theorem pn8 : plainName "java/util/ArrayList" = true := by first | (simp [plainName, overriddenIn]; done) | decide +kernel
theorem pn9 : plainName "jdk/internal/util/Preconditions" = true := by first | (simp [plainName, overriddenIn]; done) | decide +kernel
theorem pn10 : plainName "java/util/Objects" = true := by first | (simp [plainName, overriddenIn]; done) | decide +kernel
theorem pn11 : plainName "java/util/ArrayList$Itr" = true := by first | (simp [plainName, overriddenIn]; done) | decide +kernel
theorem pn12 : plainName "com/example/recordweave/recordweave/store/KeyIndex" = true := by first | (simp [plainName, overriddenIn]; done) | decide +kernel
theorem pn13 : plainName "jdk/internal/util/ArraysSupport" = true := by first | (simp [plainName, overriddenIn]; done) | decide +kernel
/-- what is said of the start -/
def ELs : List (String × Nat) := [("com/example/recordweave/recordweave/store/KeyIndexFileOfPinLaw", 7)]
def Gl (Z : State) (a0 : Array Value) : Prop := (∀ d ∈ tables_1, d.before a0 Z = true) ∧ EW Z a0 ELs
/-- the String at a, coder 0, spells cs (each 0 to 255) -/
def SL (Z : State) (h : Heap) (a : Addr) (cs : List Int32) : Prop := ∃ b, Exa Z h a "java/lang/String" ∧ Fld Z h a "java/lang/String" "coder" "B" (.int 0) ∧ Fld Z h a "java/lang/String" "value" "[B" (.ref b) ∧ Av Z h b .byte cs.length (fun j => .int ((cs.getD j 0).toInt8.toInt32)) ∧ ∀ c ∈ cs, ¬ c < 0 ∧ ¬ (255 : Int32) < c
theorem SL.exa {Z : State} {h : Heap} {a : Addr} {cs : List Int32} (S : SL Z h a cs) : Exa Z h a "java/lang/String" := by obtain ⟨b, E, -⟩ := S; exact E
theorem SL.ext {Z : State} {h h' : Heap} {a : Addr} {cs : List Int32} (S : SL Z h a cs) (E : Ext h h') : SL Z h' a cs := by obtain ⟨b, r1, r2, r3, r4, r5⟩ := S; exact ⟨b, r1.ext E, r2.ext E, r3.ext E, r4.ext E, r5⟩
/-- it stands where nothing that was there is written -/
theorem SL.keep {Z : State} {h h' : Heap} {a : Addr} {cs : List Int32} {ws : List Addr} (S : SL Z h a cs) (K : Keep h h' ws) (q : ∀ x ∈ ws, h.size ≤ x) : SL Z h' a cs := by
  obtain ⟨b, r1, r2, r3, r4, r5⟩ := S
  have n1 : a ∉ ws := fun hm => Nat.not_lt.mpr (q a hm) r1.lt
  have n2 : b ∉ ws := fun hm => Nat.not_lt.mpr (q b hm) r4.lt
  exact ⟨b, r1.keep K, r2.keep K n1, r3.keep K n1, r4.keep K n2, r5⟩
theorem SL.len {Z : State} {h : Heap} {a : Addr} {cs : List Int32} (S : SL Z h a cs) : cs.length < 2 ^ 31 := by obtain ⟨b, -, -, -, ⟨_, _, _, r, _⟩, -⟩ := S; exact r
theorem SL.of {Z : State} {h : Heap} {a t : Addr} {kb : ClassId} {cs : List Int32} {n : Nat} (hn : cs.length = n) (h31 : n < 2 ^ 31) (E : Exa Z h a "java/lang/String") (F1 : Fld Z h a "java/lang/String" "coder" "B" (.int 0)) (F2 : Fld Z h a "java/lang/String" "value" "[B" (.ref t)) (A : Arv Z h t kb .byte (Int32.ofNat n) ((cs.map fun c => c.toInt8.toInt32).map Value.int) (.int 0)) (hp : ∀ c ∈ cs, ¬ c < 0 ∧ ¬ (255 : Int32) < c) : SL Z h a cs := by
  subst hn
  refine ⟨t, E, F1, F2, (Av.of_arv A (Int32.toNatClampNeg_ofNat_of_lt h31)).congr (fun j hj => ?_), hp⟩
  simp [List.getD, hj]
/-- what is said of the String class -/
def LG (Z : State) (cz : Int32) (fm : Value) : Prop := Sta Z Z.heap "java/lang/String" "COMPACT_STRINGS" "Z" (.int cz) ∧ ¬ cz = 0 ∧ Sta Z Z.heap "jdk/internal/util/Preconditions" "SIOOBE_FORMATTER" "Ljava/util/function/BiFunction;" fm ∧ fm.isRef = true
theorem byte_of {c : Int32} (h : ¬ c < 0 ∧ ¬ (255 : Int32) < c) : ∃ k : Fin 256, c = Int32.ofNat k.val := by
  obtain ⟨h1, h2⟩ := h
  rw [Int32.lt_iff_toInt_lt] at h1 h2
  have e0 : (0 : Int32).toInt = 0 := rfl
  have e1 : (255 : Int32).toInt = 255 := rfl
  refine ⟨⟨c.toInt.toNat, by omega⟩, ?_⟩
  apply Int32.toInt_inj.mp
  rw [Int32.toInt_ofNat_of_lt (by show c.toInt.toNat < 2 ^ 31; omega)]
  show c.toInt = (c.toInt.toNat : Int)
  omega
theorem byte_back {c : Int32} (h : ¬ c < 0 ∧ ¬ (255 : Int32) < c) : nar .char ((c.toInt8.toInt32 &&& (255 : Int32)).toUInt32.toUInt16.toUInt32.toInt32) = c := by
  have t : ∀ k : Fin 256, nar .char (((Int32.ofNat k.val).toInt8.toInt32 &&& (255 : Int32)).toUInt32.toUInt16.toUInt32.toInt32) = Int32.ofNat k.val := by decide +kernel
  obtain ⟨k, rfl⟩ := byte_of h
  exact t k
theorem byte_nar {c : Int32} (h : ¬ c < 0 ∧ ¬ (255 : Int32) < c) : nar .char c = c := by
  have t : ∀ k : Fin 256, nar .char (Int32.ofNat k.val) = Int32.ofNat k.val := by decide +kernel
  obtain ⟨k, rfl⟩ := byte_of h
  exact t k
theorem shr0 (x : Int32) : x >>> ((0 : Int32) &&& 31) = x := by
  apply Int32.toBitVec_inj.mp
  simp
/-- r is the answer on P -/
def AN (P : Prop) (r : Int32) : Prop := (P ∧ r = 1) ∨ (¬ P ∧ r = 0)
theorem AN.uniq {P : Prop} {r s : Int32} (h1 : AN P r) (h2 : AN P s) : r = s := by
  rcases h1 with ⟨p, rfl⟩ | ⟨p, rfl⟩ <;> rcases h2 with ⟨q, rfl⟩ | ⟨q, rfl⟩ <;> first | rfl | exact absurd p q | exact absurd q p
abbrev rmL0 : Room := { frames := 0, cells := 0, slots := 0, locals := 0 }
abbrev rmL1 : Room := { frames := 1, cells := 0, slots := 0, locals := 16 }
abbrev rmL2 : Room := { frames := 2, cells := 0, slots := 0, locals := 32 }
abbrev rmL3 : Room := { frames := 3, cells := 0, slots := 0, locals := 48 }
theorem ofNat_inj' {a b : Nat} (h1 : a < 2 ^ 31) (h2 : b < 2 ^ 31) (q : Int32.ofNat a = Int32.ofNat b) : a = b := by
  have e := congrArg Int32.toInt q
  rw [Int32.toInt_ofNat_of_lt h1, Int32.toInt_ofNat_of_lt h2] at e
  omega
theorem byte_inj {x y : Int32} (h1 : ¬ x < 0 ∧ ¬ (255 : Int32) < x) (h2 : ¬ y < 0 ∧ ¬ (255 : Int32) < y) (q : x.toInt8.toInt32 = y.toInt8.toInt32) : x = y := by
  have e := byte_back h1
  rw [q, byte_back h2] at e
  exact e.symm
theorem list_eq_of {cs ds : List Int32} (hl : cs.length = ds.length) (h1 : ∀ c ∈ cs, ¬ c < 0 ∧ ¬ (255 : Int32) < c) (h2 : ∀ c ∈ ds, ¬ c < 0 ∧ ¬ (255 : Int32) < c) (q : ∀ j, j < cs.length → (cs.getD j 0).toInt8.toInt32 = (ds.getD j 0).toInt8.toInt32) : cs = ds := by
  refine List.ext_getElem hl (fun j hj hj' => ?_)
  have e := q j hj
  simp only [List.getD, hj, hj', getElem?_pos, Option.getD_some] at e
  exact byte_inj (h1 _ (List.getElem_mem hj)) (h2 _ (List.getElem_mem hj')) e
set_option maxRecDepth 65536 in
set_option maxHeartbeats 40000000 in
theorem loopE {p : Program} {e : Env} {s : State} {m : MethodId} {args : Array Value} {below : List Frame} {meth : Method} {c : Code} (l : Launch) (Z : State) (a0 : Array Value) (G : Gl Z a0) (b1 b2 : Addr) (N M : Nat) (F D : Nat → Int32) (h0 : Heap) (n0 : Nat) (A1 : Av Z h0 b1 .byte N (fun j => .int (F j))) (A2 : Av Z h0 b2 .byte M (fun j => .int (D j))) (hl : N = M) (C : Cx p s m meth c Z "java/lang/StringLatin1" "equals" jdk_43_method_13_code 3 (some .boolean)) (d i : Nat) (hd : d = N - i) (hiN : i ≤ N) (hs : ∀ j, j < i → F j = D j) :
    Go p l e rmL0 s m args below meth c (FinN s below rmL0 n0 (fun v h => h0 = h ∧ ∃ r, v = some (.int r) ∧ AN (N = M ∧ ∀ j, j < N → F j = D j) r)) n0 h0 0 0 9 #[.val (.ref b1), .val (.ref b2), .val (.int (Int32.ofNat i))] [] := by
  have hw := G.1
  have hN : N < 2 ^ 31 := by obtain ⟨_, _, _, r, _⟩ := A1; exact r
  induction d generalizing i with
  | zero =>
    have ei : i = N := by omega
    subst ei
    refine g_iloadN C d52_9 (v := (Int32.ofNat i)) rfl (q := 10) rfl ?_
    refine g_aloadN C d52_10 (v := (.ref b1)) rfl rfl (q := 11) rfl ?_
    refine g_alen C d52_11 A1 (z := (Int32.ofNat i)) rfl (q := 12) rfl ?_
    refine g_icmp_ge C d52_12 (q' := 32) (q := 15) (by decide) (by decide) rfl (fun hy => ?_) (fun hn => absurd hn (by rw [Int32.not_lt]; exact Int32.le_refl _))
    refine g_iconst C d52_32 (z := (1 : Int32)) rfl (q := 33) rfl ?_
    refine g_nreturn C d52_33 (by simp) (z := 1) rfl (Nat.le_refl _) (by decide) (by decide) ⟨rfl, _, rfl, Or.inl ⟨⟨hl, hs⟩, rfl⟩⟩
  | succ d ih =>
    have hi : i < N := by omega
    have hlt : Int32.ofNat i < Int32.ofNat N := by rw [Int32.lt_iff_toInt_lt, Int32.toInt_ofNat_of_lt (by omega), Int32.toInt_ofNat_of_lt (by omega)]; omega
    refine g_iloadN C d52_9 (v := (Int32.ofNat i)) rfl (q := 10) rfl ?_
    refine g_aloadN C d52_10 (v := (.ref b1)) rfl rfl (q := 11) rfl ?_
    refine g_alen C d52_11 A1 (z := (Int32.ofNat N)) rfl (q := 12) rfl ?_
    refine g_icmp_ge C d52_12 (q' := 32) (q := 15) (by decide) (by decide) rfl (fun hy => absurd hlt hy) (fun hn => ?_)
    refine g_aloadN C d52_15 (v := (.ref b1)) rfl rfl (q := 16) rfl ?_
    refine g_iloadN C d52_16 (v := (Int32.ofNat i)) rfl (q := 17) rfl ?_
    refine g_baload C d52_17 (i := i) A1 hi rfl rfl (q := 18) rfl ?_
    refine g_aloadN C d52_18 (v := (.ref b2)) rfl rfl (q := 19) rfl ?_
    refine g_iloadN C d52_19 (v := (Int32.ofNat i)) rfl (q := 20) rfl ?_
    refine g_baload C d52_20 (i := i) A2 (by omega) rfl rfl (q := 21) rfl ?_
    refine g_icmp_eq C d52_21 (q' := 26) (q := 24) (by decide) (by decide) rfl (fun e1 => ?_) (fun e1 => ?_)
    ·
      refine g_iinc C d52_26 rfl (L' := #[.val (.ref b1), .val (.ref b2), .val (.int ((Int32.ofNat i) + (1 : Int32)))]) rfl (q := 29) rfl ?_
      refine g_goto C d52_29 (q := 9) (by decide) (by decide) ?_
      rw [show Int32.ofNat i + 1 = Int32.ofNat (i + 1) from by rw [Int32.ofNat_add]; rfl]
      exact ih (i + 1) (by omega) (by omega) (fun j hj => by
        by_cases q : j = i
        · rw [q]; exact e1
        · exact hs j (by omega))
    ·
      refine g_iconst C d52_24 (z := (0 : Int32)) rfl (q := 25) rfl ?_
      refine g_nreturn C d52_25 (by simp) (z := 0) rfl (Nat.le_refl _) (by decide) (by decide) ⟨rfl, _, rfl, Or.inr ⟨fun q => e1 (q.2 i hi), rfl⟩⟩
set_option maxRecDepth 65536 in
set_option maxHeartbeats 40000000 in
theorem c_eqL1 (l : Launch) (Z : State) (a0 : Array Value) (G : Gl Z a0) (b1 b2 : Addr) (N M : Nat) (F D : Nat → Int32) (h0 : Heap) (n0 : Nat) (A1 : Av Z h0 b1 .byte N (fun j => .int (F j))) (A2 : Av Z h0 b2 .byte M (fun j => .int (D j))) :
    Ctr l Z (⟨"java/lang/StringLatin1", "equals", "([B[B)Z"⟩ : MethodName) jdk_43_method_13_code 3 (some .boolean) rmL0 #[(.ref b1), (.ref b2)] h0 n0 (fun v h => h0 = h ∧ ∃ r, v = some (.int r) ∧ AN (N = M ∧ ∀ j, j < N → F j = D j) r) := by
  have hw := G.1
  have hN : N < 2 ^ 31 := by obtain ⟨_, _, _, r, _⟩ := A1; exact r
  have hM : M < 2 ^ 31 := by obtain ⟨_, _, _, r, _⟩ := A2; exact r
  refine Ctr.of (n1 := n0) #[.val (.ref b1), .val (.ref b2), .unset] (plainFor_of_name pn0) (fun m => by first | (simp [entryFrame, mkF, argsToLocals, Value.category, maxLocals]; done) | rfl) ?_
  intro p e s m below meth c C
  refine g_aloadN C d52_0 (v := (.ref b1)) rfl rfl (q := 1) rfl ?_
  refine g_alen C d52_1 A1 (z := (Int32.ofNat N)) rfl (q := 2) rfl ?_
  refine g_aloadN C d52_2 (v := (.ref b2)) rfl rfl (q := 3) rfl ?_
  refine g_alen C d52_3 A2 (z := (Int32.ofNat M)) rfl (q := 4) rfl ?_
  refine g_icmp_ne C d52_4 (q' := 34) (q := 7) (by decide) (by decide) rfl (fun e1 => ?_) (fun e1 => ?_)
  ·
    refine g_iconst C d52_34 (z := (0 : Int32)) rfl (q := 35) rfl ?_
    refine g_nreturn C d52_35 (by simp) (z := 0) rfl (Nat.le_refl _) (by decide) (by decide) ⟨rfl, _, rfl, Or.inr ⟨fun q => e1 (by rw [q.1]), rfl⟩⟩
  ·
    refine g_iconst C d52_7 (z := (0 : Int32)) rfl (q := 8) rfl ?_
    refine g_istoreN C d52_8 (L' := #[.val (.ref b1), .val (.ref b2), .val (.int (0 : Int32))]) rfl (q := 9) rfl ?_
    exact loopE l Z a0 G b1 b2 N M F D h0 n0 A1 A2 (ofNat_inj' hN hM e1) C N 0 (by omega) (by omega) (fun j hj => absurd hj (by omega))
set_option maxRecDepth 65536 in
set_option maxHeartbeats 40000000 in
theorem c_equals (l : Launch) (Z : State) (a0 : Array Value) (G : Gl Z a0) (cz : Int32) (S0 : Sta Z Z.heap "java/lang/String" "COMPACT_STRINGS" "Z" (.int cz)) (hcz : ¬ cz = 0) (a b : Addr) (cs ds : List Int32) (h0 : Heap) (n0 : Nat) (X0 : Ext Z.heap h0) (S1 : SL Z h0 a cs) (S2 : SL Z h0 b ds) (nab : ¬ a = b) :
    Ctr l Z (⟨"java/lang/String", "equals", "(Ljava/lang/Object;)Z"⟩ : MethodName) jdk_42_method_66_code 3 (some .boolean) rmL1 #[(.ref a), (.ref b)] h0 n0 (fun v h => h0 = h ∧ ∃ r, v = some (.int r) ∧ AN (cs = ds) r) := by
  have hw := G.1
  obtain ⟨b1, E1, C1, V1, B1, p1⟩ := S1
  obtain ⟨b2, E2, C2, V2, B2, p2⟩ := S2
  refine Ctr.of (n1 := n0) #[.val (.ref a), .val (.ref b), .unset] (plainFor_of_name pn1) (fun m => by first | (simp [entryFrame, mkF, argsToLocals, Value.category, maxLocals]; done) | rfl) ?_
  intro p e s m below meth c C
  refine g_aloadN C d38_0 (v := (.ref a)) rfl rfl (q := 1) rfl ?_
  refine g_aloadN C d38_1 (v := (.ref b)) rfl rfl (q := 2) rfl ?_
  refine g_acmp_ne C d38_2 rfl rfl (q' := 7) (q := 5) (by decide) (by decide) rfl (fun hy => ?_) (fun hn_ => absurd (Value.ref.inj hn_) nab)
  refine g_aloadN C d38_7 (v := (.ref b)) rfl rfl (q := 8) rfl ?_
  refine g_instY C d38_8 (wd294 hw) (Ins.self E2) (q := 11) rfl ?_
  refine g_if_eq C d38_11 (q' := 54) (q := 14) (by decide) (by decide) rfl (fun hy => absurd hy (by decide)) (fun hn => ?_)
  refine g_aloadN C d38_14 (v := (.ref b)) rfl rfl (q := 15) rfl ?_
  refine g_castY C d38_15 (wd294 hw) (Ins.self E2) (q := 18) rfl ?_
  refine g_astoreN C d38_18 rfl (L' := #[.val (.ref a), .val (.ref b), .val (.ref b)]) rfl (q := 19) rfl ?_
  refine g_gets C d38_19 (host := "") (Or.inl (wd111 hw)) Via.refl (S0.ext X0) (q := 22) rfl ?_
  refine g_if_eq C d38_22 (q' := 36) (q := 25) (by decide) (by decide) rfl (fun hy => absurd hy hcz) (fun hn => ?_)
  refine g_aloadN C d38_25 (v := (.ref a)) rfl rfl (q := 26) rfl ?_
  refine g_getf C d38_26 (host := "") (Or.inl (wd112 hw)) Via.refl C1 (q := 29) rfl ?_
  refine g_aloadN C d38_29 (v := (.ref b)) rfl rfl (q := 30) rfl ?_
  refine g_getf C d38_30 (host := "") (Or.inl (wd112 hw)) Via.refl C2 (q := 33) rfl ?_
  refine g_icmp_ne C d38_33 (q' := 54) (q := 36) (by decide) (by decide) rfl (fun hy => absurd rfl hy) (fun hn => ?_)
  refine g_aloadN C d38_36 (v := (.ref a)) rfl rfl (q := 37) rfl ?_
  refine g_getf C d38_37 (host := "") (Or.inl (wd113 hw)) Via.refl V1 (q := 40) rfl ?_
  refine g_aloadN C d38_40 (v := (.ref b)) rfl rfl (q := 41) rfl ?_
  refine g_getf C d38_41 (host := "") (Or.inl (wd113 hw)) Via.refl V2 (q := 44) rfl ?_
  refine g_callS C (W := 0) (argsL := [(.ref b1), (.ref b2)]) (rest := []) d38_44 (wd315 hw) (wd316 hw) (wd292 hw) (wd317 hw) (by decide) (Ctr.bk (c_eqL1 l Z a0 G b1 b2 _ _ (fun j => (cs.getD j 0).toInt8.toInt32) (fun j => (ds.getD j 0).toInt8.toInt32) h0 n0 B1 B2) C (wd317 hw) (wd292 hw) (by decide) (by decide)) (by decide) (by decide) rfl (lenOf pd0 rfl) rfl rfl (q := 47) rfl (fun v1 h1 hQ1 => ?_)
  obtain ⟨rfl, r, rfl, hA⟩ := hQ1
  refine ⟨[(.int r)], rfl, ?_⟩
  have iff : (cs.length = ds.length ∧ ∀ j, j < cs.length → (cs.getD j 0).toInt8.toInt32 = (ds.getD j 0).toInt8.toInt32) ↔ cs = ds := ⟨fun q => list_eq_of q.1 p1 p2 q.2, fun q => by rw [q]; exact ⟨rfl, fun _ _ => rfl⟩⟩
  rcases hA with ⟨q, rfl⟩ | ⟨q, rfl⟩
  ·
    refine g_if_eq C d38_47 (q' := 54) (q := 50) (by decide) (by decide) rfl (fun hy => absurd hy (by decide)) (fun hn => ?_)
    refine g_iconst C d38_50 (z := (1 : Int32)) rfl (q := 51) rfl ?_
    refine g_goto C d38_51 (q := 55) (by decide) (by decide) ?_
    refine g_nreturn C d38_55 (by simp) (z := 1) rfl (Nat.le_refl _) (by decide) (by decide) ⟨rfl, _, rfl, Or.inl ⟨iff.mp q, rfl⟩⟩
  ·
    refine g_if_eq C d38_47 (q' := 54) (q := 50) (by decide) (by decide) rfl (fun hy => ?_) (fun hn => absurd rfl hn)
    refine g_iconst C d38_54 (z := (0 : Int32)) rfl (q := 55) rfl ?_
    refine g_nreturn C d38_55 (by simp) (z := 0) rfl (Nat.le_refl _) (by decide) (by decide) ⟨rfl, _, rfl, Or.inr ⟨fun q' => q (iff.mpr q'), rfl⟩⟩
set_option maxRecDepth 65536 in
set_option maxHeartbeats 40000000 in
theorem c_equalsR (l : Launch) (Z : State) (a0 : Array Value) (G : Gl Z a0) (a : Addr) (h0 : Heap) (n0 : Nat) :
    Ctr l Z (⟨"java/lang/String", "equals", "(Ljava/lang/Object;)Z"⟩ : MethodName) jdk_42_method_66_code 3 (some .boolean) rmL1 #[(.ref a), (.ref a)] h0 n0 (fun v h => h0 = h ∧ v = some (.int 1)) := by
  have hw := G.1
  refine Ctr.of (n1 := n0) #[.val (.ref a), .val (.ref a), .unset] (plainFor_of_name pn1) (fun m => by first | (simp [entryFrame, mkF, argsToLocals, Value.category, maxLocals]; done) | rfl) ?_
  intro p e s m below meth c C
  refine g_aloadN C d38_0 (v := (.ref a)) rfl rfl (q := 1) rfl ?_
  refine g_aloadN C d38_1 (v := (.ref a)) rfl rfl (q := 2) rfl ?_
  refine g_acmp_ne C d38_2 rfl rfl (q' := 7) (q := 5) (by decide) (by decide) rfl (fun hy => absurd rfl hy) (fun hn => ?_)
  refine g_iconst C d38_5 (z := (1 : Int32)) rfl (q := 6) rfl ?_
  refine g_nreturn C d38_6 (by simp) (z := 1) rfl (Nat.le_refl _) (by decide) (by decide) ⟨rfl, rfl⟩
abbrev BY (c : Int32) : Prop := ¬ c < 0 ∧ ¬ (255 : Int32) < c
def SE (Z : State) (h : Heap) (a : Addr) (cs : List Int32) : Prop := ∃ b, Exa Z h a "java/lang/String" ∧ Fld Z h a "java/lang/String" "coder" "B" (.int 0) ∧ Fld Z h a "java/lang/String" "value" "[B" (.ref b) ∧ Av Z h b .byte cs.length (fun j => .int ((cs.getD j 0).toInt8.toInt32)) ∧ Exa Z h b "[B" ∧ ∀ c ∈ cs, BY c
theorem SE.exa {Z : State} {h : Heap} {a : Addr} {cs : List Int32} (S : SE Z h a cs) : Exa Z h a "java/lang/String" := by obtain ⟨b, E, -⟩ := S; exact E
theorem SE.sl {Z : State} {h : Heap} {a : Addr} {cs : List Int32} (S : SE Z h a cs) : SL Z h a cs := by obtain ⟨b, r1, r2, r3, r4, -, r6⟩ := S; exact ⟨b, r1, r2, r3, r4, r6⟩
theorem SE.by {Z : State} {h : Heap} {a : Addr} {cs : List Int32} (S : SE Z h a cs) : ∀ c ∈ cs, BY c := by obtain ⟨b, -, -, -, -, -, r6⟩ := S; exact r6
theorem SE.ext {Z : State} {h h' : Heap} {a : Addr} {cs : List Int32} (S : SE Z h a cs) (E : Ext h h') : SE Z h' a cs := by obtain ⟨b, r1, r2, r3, r4, r5, r6⟩ := S; exact ⟨b, r1.ext E, r2.ext E, r3.ext E, r4.ext E, r5.ext E, r6⟩
theorem SE.keep {Z : State} {h h' : Heap} {a : Addr} {cs : List Int32} {ws : List Addr} (S : SE Z h a cs) (K : Keep h h' ws) (q : ∀ x ∈ ws, h.size ≤ x) : SE Z h' a cs := by
  obtain ⟨b, r1, r2, r3, r4, r5, r6⟩ := S
  have n1 : a ∉ ws := fun hm => Nat.not_lt.mpr (q a hm) r1.lt
  have n2 : b ∉ ws := fun hm => Nat.not_lt.mpr (q b hm) r4.lt
  exact ⟨b, r1.keep K, r2.keep K n1, r3.keep K n1, r4.keep K n2, r5.keep K, r6⟩
theorem nar_b (x : Int32) : nar .byte (x.toInt8.toInt32) = x.toInt8.toInt32 := by
  show (x.toInt8.toInt32).toInt8.toInt32 = _
  simp
theorem lt_iff {a b : Nat} (ha : a < 2 ^ 31) (hb : b < 2 ^ 31) : Int32.ofNat a < Int32.ofNat b ↔ a < b := by
  rw [Int32.lt_iff_toInt_lt, Int32.toInt_ofNat_of_lt ha, Int32.toInt_ofNat_of_lt hb]; omega
theorem of_inj {i n : Nat} (hi : i < 2 ^ 31) (hn : n < 2 ^ 31) (e : Int32.ofNat i = Int32.ofNat n) : i = n := by
  have e := congrArg Int32.toInt e
  rw [Int32.toInt_ofNat_of_lt hi, Int32.toInt_ofNat_of_lt hn] at e; omega
theorem of_succ (i : Nat) : Int32.ofNat i + 1 = Int32.ofNat (i + 1) := by rw [Int32.ofNat_add]; rfl
theorem of_add (i k : Nat) : Int32.ofNat i + Int32.ofNat k = Int32.ofNat (i + k) := (Int32.ofNat_add i k).symm
theorem of_sub {i k : Nat} (h : k ≤ i) : Int32.ofNat i - Int32.ofNat k = Int32.ofNat (i - k) := by
  obtain ⟨d, rfl⟩ := Nat.le.dest h
  rw [Int32.ofNat_add, Int32.sub_eq_add_neg, Int32.add_comm (Int32.ofNat k), Int32.add_assoc, Int32.add_right_neg, Int32.add_zero, Nat.add_sub_cancel_left]
theorem ushr_len0 : ∀ n : Fin 9, (XT.ushr (Int32.ofNat n.val - Int32.ofNat n.val) 31).toInt8.toInt32 = 0 := by decide +kernel
abbrev rmN0 : Room := { frames := 0, cells := 0, slots := 0, locals := 0 }
abbrev rmN1 : Room := { frames := 1, cells := 0, slots := 0, locals := 24 }
abbrev rmN2 : Room := { frames := 2, cells := 1, slots := 8, locals := 48 }
abbrev rmN3 : Room := { frames := 3, cells := 1, slots := 8, locals := 72 }
abbrev rmN4 : Room := { frames := 4, cells := 1, slots := 8, locals := 96 }
abbrev rmV0 : Room := { frames := 0, cells := 1, slots := 1, locals := 0 }
abbrev rmV1 : Room := { frames := 2, cells := 2, slots := 8, locals := 40 }
abbrev rmX4 : Room := { frames := 1, cells := 4, slots := 8, locals := 16 }
abbrev rmX1 : Room := { frames := 2, cells := 4, slots := 8, locals := 48 }
set_option maxRecDepth 65536 in
set_option maxHeartbeats 40000000 in
theorem loopCP {p : Program} {e : Env} {s : State} {m : MethodId} {args : Array Value} {below : List Frame} {meth : Method} {c : Code} (l : Launch) (Z : State) (a0 : Array Value) (G : Gl Z a0) (h0 : Heap) (n0 : Nat) (a : Addr) (cs : List Int32) (n : Nat) (hcn : cs.length = n) (hn8 : n ≤ 8) (hch : ∀ c ∈ cs, BY c) (A0 : Av Z h0 a .char n (fun j => .int (cs.getD j 0))) (C : Cx p s m meth c Z "java/lang/StringUTF16" "compress" jdk_52_method_21_code 7 (some .int)) (b : Addr) (gb : n0 ≤ b) (nab : a ≠ b) (d i : Nat) (h : Heap) (g : Nat → Value) (s6 : Slot) (hd : d = n - i) (hin : i ≤ n) (K : Keep h0 h [b]) (B : Av Z h b .byte n g) (hg : ∀ j, j < i → g j = .int ((cs.getD j 0).toInt8.toInt32)) (hs6 : s6 = .unset ∨ ∃ x, s6 = .val (.int x)) :
    Go p l e rmN0 s m args below meth c (FinN s below rmN0 n0 (fun v h => v = some (.int (Int32.ofNat n)) ∧ Keep h0 h [b] ∧ Av Z h b .byte n (fun j => .int ((cs.getD j 0).toInt8.toInt32)))) n0 h 0 0 3 #[.val (.ref a), .val (.int (Int32.ofNat i)), .val (.ref b), .val (.int (Int32.ofNat i)), .val (.int (Int32.ofNat n)), .val (.int (Int32.ofNat i)), s6] [] := by
  have hw := G.1
  induction d generalizing i h g s6 with
  | zero =>
    obtain rfl : i = n := by omega
    refine g_iload C d42_3 (v := (Int32.ofNat i)) rfl (q := 5) rfl ?_
    refine g_iload C d42_5 (v := (Int32.ofNat i)) rfl (q := 7) rfl ?_
    refine g_icmp_ge C d42_7 (q' := 44) (q := 10) (by decide) (by decide) rfl (fun hy => ?_) (fun hn => absurd ((lt_iff (by omega) (by omega)).mp hn) (Nat.lt_irrefl _))
    refine g_iload C d42_44 (v := (Int32.ofNat i)) rfl (q := 46) rfl ?_
    refine g_ireturn C d42_46 (Nat.le_refl _) (by decide) (by decide) ⟨rfl, K, B.congr hg⟩
  | succ d ih =>
    have hi : i < n := by omega
    have A1 := A0.keep K (by simpa using nab)
    have hb := hch (cs.getD i 0) (by simp [List.getD, hcn, hi])
    refine g_iload C d42_3 (v := (Int32.ofNat i)) rfl (q := 5) rfl ?_
    refine g_iload C d42_5 (v := (Int32.ofNat n)) rfl (q := 7) rfl ?_
    refine g_icmp_ge C d42_7 (q' := 44) (q := 10) (by decide) (by decide) rfl (fun hy => absurd ((lt_iff (by omega) (by omega)).mpr hi) hy) (fun hn => ?_)
    refine g_aloadN C d42_10 (v := (.ref a)) rfl rfl (q := 11) rfl ?_
    refine g_iloadN C d42_11 (v := (Int32.ofNat i)) rfl (q := 12) rfl ?_
    refine g_caload C d42_12 (i := i) A1 hi rfl rfl (q := 13) rfl ?_
    have stX : ∀ v, storeLocals #[.val (.ref a), .val (.int (Int32.ofNat i)), .val (.ref b), .val (.int (Int32.ofNat i)), .val (.int (Int32.ofNat n)), .val (.int (Int32.ofNat i)), s6] 6 (.int v) = some #[.val (.ref a), .val (.int (Int32.ofNat i)), .val (.ref b), .val (.int (Int32.ofNat i)), .val (.int (Int32.ofNat n)), .val (.int (Int32.ofNat i)), .val (.int v)] := fun v => by rcases hs6 with rfl | ⟨x, rfl⟩ <;> rfl
    refine g_istore C d42_13 (L' := #[.val (.ref a), .val (.int (Int32.ofNat i)), .val (.ref b), .val (.int (Int32.ofNat i)), .val (.int (Int32.ofNat n)), .val (.int (Int32.ofNat i)), .val (.int (cs.getD i 0))]) (stX _) (q := 15) rfl ?_
    refine g_iload C d42_15 (v := (cs.getD i 0)) rfl (q := 17) rfl ?_
    refine g_sipush C d42_17 (z := (255 : Int32)) rfl (q := 20) rfl ?_
    refine g_icmp_le C d42_20 (q' := 26) (q := 23) (by decide) (by decide) rfl (fun hy => ?_) (fun hn => absurd hn hb.2)
    refine g_aloadN C d42_26 (v := (.ref b)) rfl rfl (q := 27) rfl ?_
    refine g_iloadN C d42_27 (v := (Int32.ofNat i)) rfl (q := 28) rfl ?_
    refine g_iload C d42_28 (v := (cs.getD i 0)) rfl (q := 30) rfl ?_
    refine g_i2b C d42_30 (q := 31) rfl ?_
    refine g_bastore C d42_31 (i := i) B hi rfl gb (q := 32) rfl (fun h1 W1 B1 => ?_)
    refine g_iinc C d42_32 rfl (L' := #[.val (.ref a), .val (.int ((Int32.ofNat i) + (1 : Int32))), .val (.ref b), .val (.int (Int32.ofNat i)), .val (.int (Int32.ofNat n)), .val (.int (Int32.ofNat i)), .val (.int (cs.getD i 0))]) rfl (q := 35) rfl ?_
    refine g_iinc C d42_35 rfl (L' := #[.val (.ref a), .val (.int ((Int32.ofNat i) + (1 : Int32))), .val (.ref b), .val (.int ((Int32.ofNat i) + (1 : Int32))), .val (.int (Int32.ofNat n)), .val (.int (Int32.ofNat i)), .val (.int (cs.getD i 0))]) rfl (q := 38) rfl ?_
    refine g_iinc C d42_38 rfl (L' := #[.val (.ref a), .val (.int ((Int32.ofNat i) + (1 : Int32))), .val (.ref b), .val (.int ((Int32.ofNat i) + (1 : Int32))), .val (.int (Int32.ofNat n)), .val (.int ((Int32.ofNat i) + (1 : Int32))), .val (.int (cs.getD i 0))]) rfl (q := 41) rfl ?_
    refine g_goto C d42_41 (q := 3) (by decide) (by decide) ?_
    rw [of_succ]
    exact ih (i + 1) h1 _ _ (by omega) (by omega) (K.wr W1 (Or.inl (by simp))) B1 (fun j hj => by
      by_cases e1 : j = i
      · rw [if_pos e1, e1, nar_b]
      · rw [if_neg e1]; exact hg j (by omega)) (Or.inr ⟨_, rfl⟩)
set_option maxRecDepth 65536 in
set_option maxHeartbeats 40000000 in
theorem c_cmpL (l : Launch) (Z : State) (a0 : Array Value) (G : Gl Z a0) (h0 : Heap) (n0 : Nat) (a : Addr) (cs : List Int32) (n : Nat) (hcn : cs.length = n) (hn8 : n ≤ 8) (hch : ∀ c ∈ cs, BY c) (A0 : Av Z h0 a .char n (fun j => .int (cs.getD j 0))) (b : Addr) (g : Nat → Value) (gb : n0 ≤ b) (nab : a ≠ b) (B : Av Z h0 b .byte n g) :
    Ctr l Z (⟨"java/lang/StringUTF16", "compress", "([CI[BII)I"⟩ : MethodName) jdk_52_method_21_code 7 (some .int) rmN0 #[(.ref a), (.int (0 : Int32)), (.ref b), (.int (0 : Int32)), (.int (Int32.ofNat n))] h0 n0 (fun v h => v = some (.int (Int32.ofNat n)) ∧ Keep h0 h [b] ∧ Av Z h b .byte n (fun j => .int ((cs.getD j 0).toInt8.toInt32))) := by
  have hw := G.1
  refine Ctr.of (n1 := n0) #[.val (.ref a), .val (.int (0 : Int32)), .val (.ref b), .val (.int (0 : Int32)), .val (.int (Int32.ofNat n)), .unset, .unset] (plainFor_of_name pn2) (fun m => by first | (simp [entryFrame, mkF, argsToLocals, Value.category, maxLocals]; done) | rfl) ?_
  intro p e s m below meth c C
  refine g_iconst C d42_0 (z := (0 : Int32)) rfl (q := 1) rfl ?_
  refine g_istore C d42_1 (L' := #[.val (.ref a), .val (.int (0 : Int32)), .val (.ref b), .val (.int (0 : Int32)), .val (.int (Int32.ofNat n)), .val (.int (0 : Int32)), .unset]) rfl (q := 3) rfl ?_
  exact loopCP l Z a0 G h0 n0 a cs n hcn hn8 hch A0 C b gb nab n 0 h0 g _ (by omega) (by omega) (Keep.refl h0 [b]) B (fun j hj => absurd hj (by omega)) (Or.inl rfl)
set_option maxRecDepth 65536 in
set_option maxHeartbeats 40000000 in
theorem c_cmpB (l : Launch) (Z : State) (a0 : Array Value) (G : Gl Z a0) (h0 : Heap) (n0 : Nat) (Z0 : n0 ≤ h0.size) (a : Addr) (cs : List Int32) (n : Nat) (hcn : cs.length = n) (hn8 : n ≤ 8) (hch : ∀ c ∈ cs, BY c) (A0 : Av Z h0 a .char n (fun j => .int (cs.getD j 0))) :
    Ctr l Z (⟨"java/lang/StringUTF16", "compress", "([CII)[B"⟩ : MethodName) jdk_52_method_16_code 6 (some (.array .byte)) rmN2 #[(.ref a), (.int (0 : Int32)), (.int (Int32.ofNat n))] h0 n0 (fun v h => ∃ b, v = some (.ref b) ∧ h0.size ≤ b ∧ Keep h0 h [] ∧ Av Z h b .byte n (fun j => .int ((cs.getD j 0).toInt8.toInt32)) ∧ Exa Z h b "[B") := by
  have hw := G.1
  refine Ctr.of (n1 := n0) #[.val (.ref a), .val (.int (0 : Int32)), .val (.int (Int32.ofNat n)), .unset, .unset, .unset] (plainFor_of_name pn2) (fun m => by first | (simp [entryFrame, mkF, argsToLocals, Value.category, maxLocals]; done) | rfl) ?_
  intro p e s m below meth c C
  refine g_iloadN C d41_0 (v := (Int32.ofNat n)) rfl (q := 1) rfl ?_
  refine g_newarrayE C d41_1 (wd7 hw) (nn32 (by omega)) (cap := 8) (by rw [Int32.toNatClampNeg_ofNat_of_lt (by omega)]; exact hn8) (by decide) (by decide) (by decide) (ad := "[B") rfl (q := 3) rfl (fun b h1 k1 q1 E1 A1 F1 => ?_)
  have B1 : Av Z h1 b .byte n (fun _ => .int 0) := by
    have q := Av.new A1 (nn32 (show n < 2 ^ 31 by omega))
    rw [Int32.toNatClampNeg_ofNat_of_lt (by omega)] at q
    exact q
  have gb0 : h0.size ≤ b := by rw [q1]; exact Nat.le_refl _
  have gb : n0 ≤ b := Nat.le_trans Z0 gb0
  have nab : a ≠ b := by rw [q1]; exact Nat.ne_of_lt A0.lt
  refine g_astoreN C d41_3 rfl (L' := #[.val (.ref a), .val (.int (0 : Int32)), .val (.int (Int32.ofNat n)), .val (.ref b), .unset, .unset]) rfl (q := 4) rfl ?_
  refine g_aloadN C d41_4 (v := (.ref a)) rfl rfl (q := 5) rfl ?_
  refine g_iloadN C d41_5 (v := (0 : Int32)) rfl (q := 6) rfl ?_
  refine g_aloadN C d41_6 (v := (.ref b)) rfl rfl (q := 7) rfl ?_
  refine g_iconst C d41_7 (z := (0 : Int32)) rfl (q := 8) rfl ?_
  refine g_iloadN C d41_8 (v := (Int32.ofNat n)) rfl (q := 9) rfl ?_
  refine g_callS C (W := 0) (argsL := [(.ref a), (.int (0 : Int32)), (.ref b), (.int (0 : Int32)), (.int (Int32.ofNat n))]) (rest := []) d41_9 (wd281 hw) (wd282 hw) (wd279 hw) (wd283 hw) (by decide) (Ctr.bk (c_cmpL l Z a0 G h1 n0 a cs n hcn hn8 hch (A0.ext E1) b _ gb nab B1) C (wd283 hw) (wd279 hw) (by decide) (by decide)) (by decide) (by decide) rfl (lenOf pd1 rfl) rfl rfl (q := 12) rfl (fun v2 h2 hQ2 => ?_)
  obtain ⟨rfl, K2, B2⟩ := hQ2
  refine ⟨[(.int (Int32.ofNat n))], rfl, ?_⟩
  refine g_istore C d41_12 (L' := #[.val (.ref a), .val (.int (0 : Int32)), .val (.int (Int32.ofNat n)), .val (.ref b), .val (.int (Int32.ofNat n)), .unset]) rfl (q := 14) rfl ?_
  refine g_iload C d41_14 (v := (Int32.ofNat n)) rfl (q := 16) rfl ?_
  refine g_iloadN C d41_16 (v := (Int32.ofNat n)) rfl (q := 17) rfl ?_
  refine g_icmp_eq C d41_17 (q' := 57) (q := 20) (by decide) (by decide) rfl (fun hy => ?_) (fun hn => absurd rfl hn)
  refine g_aloadN C d41_57 (v := (.ref b)) rfl rfl (q := 58) rfl ?_
  refine g_areturn C d41_58 rfl rfl (Nat.le_refl _) (by decide) (by decide) ⟨b, rfl, gb0, (Ext.kp E1 []).trans K2 (fun x hx => Or.inr (by cases List.mem_singleton.mp hx; exact gb0)), B2, F1.keep K2⟩
set_option maxRecDepth 65536 in
set_option maxHeartbeats 40000000 in
theorem c_cfa0 (l : Launch) (Z : State) (a0 : Array Value) (G : Gl Z a0) (n : Nat) (hn8 : n ≤ 8) (b : Addr) (g : Nat → Value) (h0 : Heap) (n0 : Nat) (B : Av Z h0 b .byte n g) :
    Ctr l Z (⟨"java/lang/StringUTF16", "coderFromArrayLen", "([BI)B"⟩ : MethodName) jdk_52_method_15_code 2 (some .byte) rmN0 #[(.ref b), (.int (Int32.ofNat n))] h0 n0 (fun v h => h0 = h ∧ v = some (.int 0)) := by
  have hw := G.1
  refine Ctr.of (n1 := n0) #[.val (.ref b), .val (.int (Int32.ofNat n))] (plainFor_of_name pn2) (fun m => by first | (simp [entryFrame, mkF, argsToLocals, Value.category, maxLocals]; done) | rfl) ?_
  intro p e s m below meth c C
  refine g_iloadN C d43_0 (v := (Int32.ofNat n)) rfl (q := 1) rfl ?_
  refine g_aloadN C d43_1 (v := (.ref b)) rfl rfl (q := 2) rfl ?_
  refine g_alen C d43_2 B (z := (Int32.ofNat n)) rfl (q := 3) rfl ?_
  refine g_isub C d43_3 (q := 4) rfl ?_
  refine g_bipush C d43_4 (z := (31 : Int32)) rfl (q := 6) rfl ?_
  refine g_iushr C d43_6 (q := 7) rfl ?_
  refine g_i2b C d43_7 (q := 8) rfl ?_
  rw [show (((XT.ushr ((Int32.ofNat n) - (Int32.ofNat n)) (31 : Int32)).toInt8.toInt32)) = 0 from ushr_len0 ⟨n, by omega⟩]
  refine g_nreturn C d43_8 (by simp) (z := 0) rfl (Nat.le_refl _) (by decide) (by decide) ⟨rfl, rfl⟩
set_option maxRecDepth 65536 in
set_option maxHeartbeats 40000000 in
theorem c_new4 (l : Launch) (Z : State) (a0 : Array Value) (G : Gl Z a0) (h0 : Heap) (n0 : Nat) (Z0 : n0 ≤ h0.size) (a : Addr) (cs : List Int32) (n : Nat) (hcn : cs.length = n) (hn8 : n ≤ 8) (hch : ∀ c ∈ cs, BY c) (A0 : Av Z h0 a .char n (fun j => .int (cs.getD j 0))) (X0 : Ext Z.heap h0) (cz : Int32) (S0 : Sta Z Z.heap "java/lang/String" "COMPACT_STRINGS" "Z" (.int cz)) (hcz : ¬ cz = 0) (hn0 : ¬ n = 0) (t : Addr) (gt : n0 ≤ t) (E0 : Exa Z h0 t "java/lang/String") (o1 o2 : Value) (V0 : Fld Z h0 t "java/lang/String" "value" "[B" o1) (C0 : Fld Z h0 t "java/lang/String" "coder" "B" o2) :
    Ctr l Z (⟨"java/lang/String", "<init>", "([CIILjava/lang/Void;)V"⟩ : MethodName) jdk_42_method_149_code 6 none rmN3 #[(.ref t), (.ref a), (.int (0 : Int32)), (.int (Int32.ofNat n)), .null] h0 n0 (fun v h => v = none ∧ Keep h0 h [t] ∧ SE Z h t cs) := by
  have hw := G.1
  refine Ctr.of (n1 := n0) #[.val (.ref t), .val (.ref a), .val (.int (0 : Int32)), .val (.int (Int32.ofNat n)), .val .null, .unset] (plainFor_of_name pn1) (fun m => by first | (simp [entryFrame, mkF, argsToLocals, Value.category, maxLocals]; done) | rfl) ?_
  intro p e s m below meth c C
  refine g_aloadN C d40_0 (v := (.ref t)) rfl rfl (q := 1) rfl ?_
  refine g_initO C d40_1 (wd276 hw) (wd32 hw) (wd33 hw) rfl (by decide) (W := 0) rfl (by decide) (q := 4) rfl ?_
  refine g_iloadN C d40_4 (v := (Int32.ofNat n)) rfl (q := 5) rfl ?_
  refine g_if_ne C d40_5 (q' := 27) (q := 8) (by decide) (by decide) rfl (fun hy => ?_) (fun hn_ => absurd (of_inj (n := 0) (by omega) (by decide) hn_) hn0)
  refine g_gets C d40_27 (host := "") (Or.inl (wd111 hw)) Via.refl (S0.ext X0) (q := 30) rfl ?_
  refine g_if_eq C d40_30 (q' := 58) (q := 33) (by decide) (by decide) rfl (fun hy => absurd hy hcz) (fun hn => ?_)
  refine g_aloadN C d40_33 (v := (.ref a)) rfl rfl (q := 34) rfl ?_
  refine g_iloadN C d40_34 (v := (0 : Int32)) rfl (q := 35) rfl ?_
  refine g_iloadN C d40_35 (v := (Int32.ofNat n)) rfl (q := 36) rfl ?_
  refine g_callS C (W := 0) (argsL := [(.ref a), (.int (0 : Int32)), (.int (Int32.ofNat n))]) (rest := []) d40_36 (wd277 hw) (wd278 hw) (wd279 hw) (wd280 hw) (by decide) (Ctr.bk (c_cmpB l Z a0 G h0 n0 Z0 a cs n hcn hn8 hch A0) C (wd280 hw) (wd279 hw) (by decide) (by decide)) (by decide) (by decide) rfl (lenOf pd2 rfl) rfl rfl (q := 39) rfl (fun v1 h1 hQ1 => ?_)
  obtain ⟨b, rfl, gb, K1, B1, EB1⟩ := hQ1
  refine ⟨[(.ref b)], rfl, ?_⟩
  have E1 := E0.keep K1
  have V1 := V0.keep K1 (by simp)
  have C1_ := C0.keep K1 (by simp)
  refine g_astore C d40_39 rfl (L' := #[.val (.ref t), .val (.ref a), .val (.int (0 : Int32)), .val (.int (Int32.ofNat n)), .val .null, .val (.ref b)]) rfl (q := 41) rfl ?_
  refine g_aloadN C d40_41 (v := (.ref t)) rfl rfl (q := 42) rfl ?_
  refine g_aload C d40_42 (v := (.ref b)) rfl rfl (q := 44) rfl ?_
  refine g_iloadN C d40_44 (v := (Int32.ofNat n)) rfl (q := 45) rfl ?_
  refine g_callS C (W := 1) (argsL := [(.ref b), (.int (Int32.ofNat n))]) (rest := [(.ref t)]) d40_45 (wd284 hw) (wd285 hw) (wd279 hw) (wd286 hw) (by decide) (Ctr.bk (c_cfa0 l Z a0 G n hn8 b _ h1 n0 B1) C (wd286 hw) (wd279 hw) (by decide) (by decide)) (by decide) (by decide) rfl (lenOf pd3 rfl) rfl rfl (q := 48) rfl (fun v2 h2 hQ2 => ?_)
  obtain ⟨rfl, rfl⟩ := hQ2
  refine ⟨[(.int (0 : Int32)), (.ref t)], rfl, ?_⟩
  refine g_putf C d40_48 (host := "") (Or.inl (wd112 hw)) Via.refl C1_ E1 (Or.inr ⟨(wd9 hw), rfl, rfl⟩) (wd6 hw) (ty := .byte) (by decide) rfl rfl gt (q := 51) rfl (fun h2 W2 => ?_)
  refine g_aloadN C d40_51 (v := (.ref t)) rfl rfl (q := 52) rfl ?_
  refine g_aload C d40_52 (v := (.ref b)) rfl rfl (q := 54) rfl ?_
  have E2 := E1.wr W2
  have V2 := V1.other W2 (Or.inr (slot_ne (Or.inr (wd8 hw)) (Or.inr (wd9 hw)) (by decide) (t := .array .byte) (t' := .byte) (by decide) (by decide)))
  have C2 := C1_.same W2
  have nbt : b ≠ t := B1.ne_exa E1 (wd6 hw)
  have B2 := B1.other W2 nbt
  refine g_putf C d40_54 (host := "") (Or.inl (wd113 hw)) Via.refl V2 E2 (Or.inr ⟨(wd8 hw), rfl, rfl⟩) (wd6 hw) (ty := (.array .byte)) (by decide) rfl rfl gt (q := 57) rfl (fun h3 W3 => ?_)
  have E3 := E2.wr W3
  have V3 := V2.same W3
  have C3 := C2.other W3 (Or.inr (slot_ne (Or.inr (wd9 hw)) (Or.inr (wd8 hw)) (by decide) (t := .byte) (t' := .array .byte) (by decide) (by decide)))
  have B3 := B2.other W3 nbt
  refine g_return C d40_57 (Nat.le_refl _) (by decide) (by decide) ⟨rfl, (((Keep.refl h0 [t]).trans K1 (by simp)).wr W2 (Or.inl (by simp))).wr W3 (Or.inl (by simp)), b, E3, C3, V3, by subst hcn; exact B3, (EB1.wr W2).wr W3, hch⟩
set_option maxRecDepth 65536 in
set_option maxHeartbeats 40000000 in
theorem c_new1 (l : Launch) (Z : State) (a0 : Array Value) (G : Gl Z a0) (h0 : Heap) (n0 : Nat) (Z0 : n0 ≤ h0.size) (a : Addr) (cs : List Int32) (n : Nat) (hcn : cs.length = n) (hn8 : n ≤ 8) (hch : ∀ c ∈ cs, BY c) (A0 : Av Z h0 a .char n (fun j => .int (cs.getD j 0))) (X0 : Ext Z.heap h0) (cz : Int32) (S0 : Sta Z Z.heap "java/lang/String" "COMPACT_STRINGS" "Z" (.int cz)) (hcz : ¬ cz = 0) (hn0 : ¬ n = 0) (t : Addr) (gt : n0 ≤ t) (E0 : Exa Z h0 t "java/lang/String") (o1 o2 : Value) (V0 : Fld Z h0 t "java/lang/String" "value" "[B" o1) (C0 : Fld Z h0 t "java/lang/String" "coder" "B" o2) :
    Ctr l Z (⟨"java/lang/String", "<init>", "([C)V"⟩ : MethodName) jdk_42_method_3_code 2 none rmN4 #[(.ref t), (.ref a)] h0 n0 (fun v h => v = none ∧ Keep h0 h [t] ∧ SE Z h t cs) := by
  have hw := G.1
  refine Ctr.of (n1 := n0) #[.val (.ref t), .val (.ref a)] (plainFor_of_name pn1) (fun m => by first | (simp [entryFrame, mkF, argsToLocals, Value.category, maxLocals]; done) | rfl) ?_
  intro p e s m below meth c C
  refine g_aloadN C d39_0 (v := (.ref t)) rfl rfl (q := 1) rfl ?_
  refine g_aloadN C d39_1 (v := (.ref a)) rfl rfl (q := 2) rfl ?_
  refine g_iconst C d39_2 (z := (0 : Int32)) rfl (q := 3) rfl ?_
  refine g_aloadN C d39_3 (v := (.ref a)) rfl rfl (q := 4) rfl ?_
  refine g_alen C d39_4 A0 (z := (Int32.ofNat n)) rfl (q := 5) rfl ?_
  refine g_aconst_null C d39_5 (q := 6) rfl ?_
  refine g_callI C (W := 0) (argsL := [(.ref a), (.int (0 : Int32)), (.int (Int32.ofNat n)), .null]) (rest := []) (a := t) d39_6 rfl (wd273 hw) (wd274 hw) (wd275 hw) (by decide) (Ctr.bk (c_new4 l Z a0 G h0 n0 Z0 a cs n hcn hn8 hch A0 X0 cz S0 hcz hn0 t gt E0 o1 o2 V0 C0) C (wd275 hw) (wd5 hw) (by decide) (by decide)) (by decide) (by decide) rfl (lenOf pd4 rfl) rfl rfl (q := 9) rfl (fun v1 h1 hQ1 => ?_)
  obtain ⟨rfl, K1, S1⟩ := hQ1
  refine ⟨[], rfl, ?_⟩
  refine g_return C d39_9 (Nat.le_refl _) (by decide) (by decide) ⟨rfl, K1, S1⟩
set_option maxRecDepth 65536 in
set_option maxHeartbeats 40000000 in
theorem c_canEnc (l : Launch) (Z : State) (a0 : Array Value) (G : Gl Z a0) (ch : Int32) (hch : BY ch) (h0 : Heap) (n0 : Nat) :
    Ctr l Z (⟨"java/lang/StringLatin1", "canEncode", "(C)Z"⟩ : MethodName) jdk_43_method_3_code 1 (some .boolean) rmN0 #[(.int ch)] h0 n0 (fun v h => h0 = h ∧ v = some (.int 1)) := by
  have hw := G.1
  refine Ctr.of (n1 := n0) #[.val (.int ch)] (plainFor_of_name pn0) (fun m => by first | (simp [entryFrame, mkF, argsToLocals, Value.category, maxLocals]; done) | rfl) ?_
  intro p e s m below meth c C
  refine g_iloadN C d45_0 (v := ch) rfl (q := 1) rfl ?_
  refine g_sipush C d45_1 (z := (255 : Int32)) rfl (q := 4) rfl ?_
  refine g_icmp_gt C d45_4 (q' := 11) (q := 7) (by decide) (by decide) rfl (fun hy => absurd hy hch.2) (fun hn => ?_)
  refine g_iconst C d45_7 (z := (1 : Int32)) rfl (q := 8) rfl ?_
  refine g_goto C d45_8 (q := 12) (by decide) (by decide) ?_
  refine g_nreturn C d45_12 (by simp) (z := 1) rfl (Nat.le_refl _) (by decide) (by decide) ⟨rfl, rfl⟩
set_option maxRecDepth 65536 in
set_option maxHeartbeats 40000000 in
theorem c_tb1 (l : Launch) (Z : State) (a0 : Array Value) (G : Gl Z a0) (ch : Int32) (h0 : Heap) (n0 : Nat) (Z0 : n0 ≤ h0.size) :
    Ctr l Z (⟨"java/lang/StringLatin1", "toBytes", "(C)[B"⟩ : MethodName) jdk_43_method_46_code 1 (some (.array .byte)) rmV0 #[(.int ch)] h0 n0 (fun v h => ∃ b, v = some (.ref b) ∧ h0.size ≤ b ∧ Keep h0 h [] ∧ Av Z h b .byte 1 (fun _ => .int (ch.toInt8.toInt32)) ∧ Exa Z h b "[B") := by
  have hw := G.1
  refine Ctr.of (n1 := n0) #[.val (.int ch)] (plainFor_of_name pn0) (fun m => by first | (simp [entryFrame, mkF, argsToLocals, Value.category, maxLocals]; done) | rfl) ?_
  intro p e s m below meth c C
  refine g_iconst C d46_0 (z := (1 : Int32)) rfl (q := 1) rfl ?_
  refine g_newarrayE C d46_1 (wd7 hw) (by decide) (cap := 1) (by decide) (by decide) (by decide) (by decide) (ad := "[B") rfl (q := 3) rfl (fun b h1 k1 q1 E1 A1 F1 => ?_)
  have B1 : Av Z h1 b .byte 1 (fun _ => .int 0) := Av.new A1 (by decide)
  have gb0 : h0.size ≤ b := by rw [q1]; exact Nat.le_refl _
  refine g_dup C d46_3 rfl (q := 4) rfl ?_
  refine g_iconst C d46_4 (z := (0 : Int32)) rfl (q := 5) rfl ?_
  refine g_iloadN C d46_5 (v := ch) rfl (q := 6) rfl ?_
  refine g_i2b C d46_6 (q := 7) rfl ?_
  refine g_bastore C d46_7 (i := 0) B1 (by decide) rfl (Nat.le_trans Z0 gb0) (q := 8) rfl (fun h2 W2 B2 => ?_)
  refine g_areturn C d46_8 rfl rfl (Nat.le_refl _) (by decide) (by decide) ⟨b, rfl, gb0, (Ext.kp E1 []).wr W2 (Or.inr gb0), B2.congr (fun j hj => by rw [if_pos (by omega), nar_b]), F1.wr W2⟩
set_option maxRecDepth 65536 in
set_option maxHeartbeats 40000000 in
theorem c_initBB (l : Launch) (Z : State) (a0 : Array Value) (G : Gl Z a0) (t b : Addr) (h0 : Heap) (n0 : Nat) (gt : n0 ≤ t) (E0 : Exa Z h0 t "java/lang/String") (o1 o2 : Value) (V0 : Fld Z h0 t "java/lang/String" "value" "[B" o1) (C0 : Fld Z h0 t "java/lang/String" "coder" "B" o2) :
    Ctr l Z (⟨"java/lang/String", "<init>", "([BB)V"⟩ : MethodName) jdk_42_method_151_code 3 none rmN1 #[(.ref t), (.ref b), (.int (0 : Int32))] h0 n0 (fun v h => v = none ∧ Keep h0 h [t] ∧ Exa Z h t "java/lang/String" ∧ Fld Z h t "java/lang/String" "coder" "B" (.int 0) ∧ Fld Z h t "java/lang/String" "value" "[B" (.ref b)) := by
  have hw := G.1
  refine Ctr.of (n1 := n0) #[.val (.ref t), .val (.ref b), .val (.int (0 : Int32))] (plainFor_of_name pn1) (fun m => by first | (simp [entryFrame, mkF, argsToLocals, Value.category, maxLocals]; done) | rfl) ?_
  intro p e s m below meth c C
  refine g_aloadN C d47_0 (v := (.ref t)) rfl rfl (q := 1) rfl ?_
  refine g_initO C d47_1 (wd276 hw) (wd32 hw) (wd33 hw) rfl (by decide) (W := 0) rfl (by decide) (q := 4) rfl ?_
  refine g_aloadN C d47_4 (v := (.ref t)) rfl rfl (q := 5) rfl ?_
  refine g_aloadN C d47_5 (v := (.ref b)) rfl rfl (q := 6) rfl ?_
  refine g_putf C d47_6 (host := "") (Or.inl (wd113 hw)) Via.refl V0 E0 (Or.inr ⟨(wd8 hw), rfl, rfl⟩) (wd6 hw) (ty := (.array .byte)) (by decide) rfl rfl gt (q := 9) rfl (fun h1 W1 => ?_)
  have E1 := E0.wr W1
  have V1 := V0.same W1
  have C1_ := C0.other W1 (Or.inr (slot_ne (Or.inr (wd9 hw)) (Or.inr (wd8 hw)) (by decide) (t := .byte) (t' := .array .byte) (by decide) (by decide)))
  refine g_aloadN C d47_9 (v := (.ref t)) rfl rfl (q := 10) rfl ?_
  refine g_iloadN C d47_10 (v := (0 : Int32)) rfl (q := 11) rfl ?_
  refine g_putf C d47_11 (host := "") (Or.inl (wd112 hw)) Via.refl C1_ E1 (Or.inr ⟨(wd9 hw), rfl, rfl⟩) (wd6 hw) (ty := .byte) (by decide) rfl rfl gt (q := 14) rfl (fun h2 W2 => ?_)
  refine g_return C d47_14 (Nat.le_refl _) (by decide) (by decide) ⟨rfl, ((Keep.refl h0 [t]).wr W1 (Or.inl (by simp))).wr W2 (Or.inl (by simp)), E1.wr W2, C1_.same W2, V1.other W2 (Or.inr (slot_ne (Or.inr (wd8 hw)) (Or.inr (wd9 hw)) (by decide) (t := .array .byte) (t' := .byte) (by decide) (by decide)))⟩
set_option maxRecDepth 65536 in
set_option maxHeartbeats 40000000 in
theorem c_valueOf (l : Launch) (Z : State) (a0 : Array Value) (G : Gl Z a0) (cz : Int32) (S0 : Sta Z Z.heap "java/lang/String" "COMPACT_STRINGS" "Z" (.int cz)) (hcz : ¬ cz = 0) (h0 : Heap) (n0 : Nat) (X0 : Ext Z.heap h0) (Z0 : n0 ≤ h0.size) (ch : Int32) (hch : BY ch) :
    Ctr l Z (⟨"java/lang/String", "valueOf", "(C)Ljava/lang/String;"⟩ : MethodName) jdk_42_method_139_code 1 (some (.object "java/lang/String")) rmV1 #[(.int ch)] h0 n0 (fun v h => ∃ t, v = some (.ref t) ∧ h0.size ≤ t ∧ Keep h0 h [] ∧ SE Z h t [ch]) := by
  have hw := G.1
  refine Ctr.of (n1 := n0) #[.val (.int ch)] (plainFor_of_name pn1) (fun m => by first | (simp [entryFrame, mkF, argsToLocals, Value.category, maxLocals]; done) | rfl) ?_
  intro p e s m below meth c C
  refine g_gets C d44_0 (host := "") (Or.inl (wd111 hw)) Via.refl (S0.ext X0) (q := 3) rfl ?_
  refine g_if_eq C d44_3 (q' := 26) (q := 6) (by decide) (by decide) rfl (fun hy => absurd hy hcz) (fun hn => ?_)
  refine g_iloadN C d44_6 (v := ch) rfl (q := 7) rfl ?_
  refine g_callS C (W := 0) (argsL := [(.int ch)]) (rest := []) d44_7 (wd290 hw) (wd291 hw) (wd292 hw) (wd293 hw) (by decide) (Ctr.bk (c_canEnc l Z a0 G ch hch h0 n0) C (wd293 hw) (wd292 hw) (by decide) (by decide)) (by decide) (by decide) rfl (lenOf pd5 rfl) rfl rfl (q := 10) rfl (fun v1 h1 hQ1 => ?_)
  obtain ⟨rfl, rfl⟩ := hQ1
  refine ⟨[(.int 1)], rfl, ?_⟩
  refine g_if_eq C d44_10 (q' := 26) (q := 13) (by decide) (by decide) rfl (fun hy => absurd hy (by decide)) (fun hn => ?_)
  refine g_new C d44_13 (wd294 hw) (wd6 hw) (wd5 hw) (by decide) (by decide) (q := 16) rfl (fun t h2 q2 E2 A2 D2 => ?_)
  refine g_dup C d44_16 rfl (q := 17) rfl ?_
  refine g_iloadN C d44_17 (v := ch) rfl (q := 18) rfl ?_
  refine g_callS C (W := 2) (argsL := [(.int ch)]) (rest := [(.ref t), (.ref t)]) d44_18 (wd295 hw) (wd296 hw) (wd292 hw) (wd297 hw) (by decide) (Ctr.bk (c_tb1 l Z a0 G ch h2 n0 (Nat.le_trans Z0 E2.1)) C (wd297 hw) (wd292 hw) (by decide) (by decide)) (by decide) (by decide) rfl (lenOf pd6 rfl) rfl rfl (q := 21) rfl (fun v3 h3 hQ3 => ?_)
  obtain ⟨b, rfl, gb, K3, B3, EB3⟩ := hQ3
  refine ⟨[(.ref b), (.ref t), (.ref t)], rfl, ?_⟩
  refine g_iconst C d44_21 (z := (0 : Int32)) rfl (q := 22) rfl ?_
  refine g_callI C (W := 1) (argsL := [(.ref b), (.int (0 : Int32))]) (rest := [(.ref t)]) (a := t) d44_22 rfl (wd298 hw) (wd299 hw) (wd300 hw) (by decide) (Ctr.bk (c_initBB l Z a0 G t b h3 n0 (by rw [q2]; exact Z0) (A2.keep K3) _ _ ((D2 (Or.inr (wd8 hw)) (ty := .array .byte) (by decide)).keep K3 (by simp)) ((D2 (Or.inr (wd9 hw)) (ty := .byte) (by decide)).keep K3 (by simp))) C (wd300 hw) (wd5 hw) (by decide) (by decide)) (by decide) (by decide) rfl (lenOf pd7 rfl) rfl rfl (q := 25) rfl (fun v4 h4 hQ4 => ?_)
  obtain ⟨rfl, K4, E4, C4, V4⟩ := hQ4
  refine ⟨[(.ref t)], rfl, ?_⟩
  have nbt : b ≠ t := B3.ne_exa (A2.keep K3) (wd6 hw)
  have B4 := B3.keep K4 (by simpa using nbt)
  refine g_areturn C d44_25 rfl rfl (Nat.le_refl _) (by decide) (by decide) ⟨t, rfl, by rw [q2]; exact Nat.le_refl _, ((Ext.kp E2 []).trans K3 (by simp)).trans K4 (fun x hx => Or.inr (by cases List.mem_singleton.mp hx; rw [q2]; exact Nat.le_refl _)), b, E4, C4, V4, B4.congr (fun j hj => by
      obtain rfl : j = 0 := by omega
      rfl), EB3.keep K4, fun c hc => by cases List.mem_singleton.mp hc; exact hch⟩
theorem ext255 (x : Int32) : BY ((x &&& (255 : Int32)).toUInt32.toUInt16.toUInt32.toInt32) := by
  have t : ∀ k : Fin 256, BY ((Int32.ofNat k.val).toUInt32.toUInt16.toUInt32.toInt32) := by decide +kernel
  have h : (x &&& 255).toBitVec.toNat < 256 := by
    simp only [Int32.toBitVec_and, BitVec.toNat_and]
    exact Nat.lt_succ_of_le Nat.and_le_right
  have e : (x &&& 255) = Int32.ofNat (x &&& 255).toBitVec.toNat := by
    apply Int32.toBitVec_inj.mp
    show _ = BitVec.ofNat 32 _
    rw [BitVec.ofNat_toNat]; simp
  rw [e]
  exact t ⟨_, h⟩
theorem Ctr.imp {l : Launch} {Z : State} {y : MethodName} {bytes : ByteArray} {maxL : Nat} {rt : Option FieldType} {rm : Room} {as' : Array Value} {hs : Heap} {nf : Nat} {Q Q' : Option Value → Heap → Prop} (M : Ctr l Z y bytes maxL rt rm as' hs nf Q) (H : ∀ v h, Q v h → Q' v h) : Ctr l Z y bytes maxL rt rm as' hs nf Q' := by
  intro p e ha hc hk s m args below hf hA hP hK
  obtain ⟨n, o, h1, h2, h3, v, L, e1, ⟨hq, hn⟩, e2⟩ := M p e ha hc hk s m args below hf hA hP hK
  exact ⟨n, o, h1, h2, h3, v, L, e1, ⟨H _ _ hq, hn⟩, e2⟩
theorem SL.uniq {Z : State} {h : Heap} {a : Addr} {cs ds : List Int32} (S : SL Z h a cs) (T : SL Z h a ds) : cs = ds := by
  obtain ⟨b, -, -, ⟨c1, _, _, _, f1, p1, p2, -, -, -, -, p7⟩, ⟨k1, A1, n1, -, g1⟩, q1⟩ := S
  obtain ⟨b', -, -, ⟨c2, _, _, _, f2, r1, r2, -, -, -, -, r7⟩, ⟨k2, A2, n2, -, g2⟩, q2⟩ := T
  cases p1.symm.trans r1
  cases p2.symm.trans r2
  cases p7.symm.trans r7
  cases A1.1.symm.trans A2.1
  have hl : cs.length = ds.length := n1.symm.trans n2
  exact list_eq_of hl q1 q2 (fun j hj => by
    have e := (g1 j hj).symm.trans (g2 j (by omega))
    exact Value.int.inj (Option.some.inj e))
theorem c_eqG (l : Launch) (Z : State) (a0 : Array Value) (G : Gl Z a0) (cz : Int32) (S0 : Sta Z Z.heap "java/lang/String" "COMPACT_STRINGS" "Z" (.int cz)) (hcz : ¬ cz = 0) (a b : Addr) (cs ds : List Int32) (h0 : Heap) (n0 : Nat) (X0 : Ext Z.heap h0) (S1 : SL Z h0 a cs) (S2 : SL Z h0 b ds) :
    Ctr l Z (⟨"java/lang/String", "equals", "(Ljava/lang/Object;)Z"⟩ : MethodName) jdk_42_method_66_code 3 (some .boolean) rmL1 #[(.ref a), (.ref b)] h0 n0 (fun v h => h0 = h ∧ ∃ r, v = some (.int r) ∧ AN (cs = ds) r) := by
  by_cases e : a = b
  · subst e
    exact Ctr.imp (c_equalsR l Z a0 G a h0 n0) (fun v h q => ⟨q.1, 1, q.2, Or.inl ⟨S1.uniq S2, rfl⟩⟩)
  · exact c_equals l Z a0 G cz S0 hcz a b cs ds h0 n0 X0 S1 S2 e
abbrev rmKy : Room := { frames := 5, cells := 8, slots := 40, locals := 128 }
set_option maxRecDepth 65536 in
set_option maxHeartbeats 40000000 in
theorem c_key (l : Launch) (Z : State) (a0 : Array Value) (G : Gl Z a0) (cz : Int32) (S0 : Sta Z Z.heap "java/lang/String" "COMPACT_STRINGS" "Z" (.int cz)) (hcz : ¬ cz = 0) (x0 : Int32) (h0 : Heap) (n0 : Nat) (Z0 : n0 ≤ h0.size) (X0 : Ext Z.heap h0) :
    CtrW l Z (⟨"com/example/recordweave/recordweave/store/KeyIndexFileOfPinLaw", "key", "(I)Ljava/lang/String;"⟩ : MethodName) method_2_code 5 (some (.object "java/lang/String")) rmKy #[(.int x0)] h0 n0 (fun vm => CHv Z ELs vm h0) (fun v vm h => ∃ t cs, v = some (.ref t) ∧ Keep h0 h [] ∧ SE Z h t cs ∧ cs.length ≤ 3 ∧ CHv Z ELs vm h) := by
  have hw := G.1
  have wS : ∀ a ∈ Bundle.stringAtoms, a.before a0 Z = true := fun d hd => hw d ((by decide +kernel : ∀ d ∈ Bundle.stringAtoms, d ∈ tables_1) d hd)
  refine CtrW.of (n1 := n0) #[.val (.int x0), .unset, .unset, .unset, .unset] (plainFor_of_name pn3) (fun m => by first | (simp [entryFrame, mkF, argsToLocals, Value.category, maxLocals]; done) | rfl) ?_
  intro p e s0 vm0 m below meth c C hs0 hP0 Sw
  have C : Cx p (s0.setVm vm0) m meth c Z "com/example/recordweave/recordweave/store/KeyIndexFileOfPinLaw" "key" method_2_code 5 (some (.object "java/lang/String")) := C
  refine g_iloadN C d1_0 (v := x0) rfl (q := 1) rfl ?_
  refine g_sipush C d1_1 (z := (255 : Int32)) rfl (q := 4) rfl ?_
  refine g_iand C d1_4 (q := 5) rfl ?_
  refine g_i2c C d1_5 (q := 6) rfl ?_
  obtain ⟨c0, ec0, hc0⟩ : ∃ y, y = ((x0 &&& (255 : Int32)).toUInt32.toUInt16.toUInt32.toInt32) ∧ BY y := ⟨_, rfl, ext255 _⟩
  rw [← ec0]
  refine g_istoreN C d1_6 (L' := #[.val (.int x0), .val (.int c0), .unset, .unset, .unset]) rfl (q := 7) rfl ?_
  refine g_iloadN C d1_7 (v := x0) rfl (q := 8) rfl ?_
  refine g_bipush C d1_8 (z := (8 : Int32)) rfl (q := 10) rfl ?_
  refine g_iushr C d1_10 (q := 11) rfl ?_
  refine g_sipush C d1_11 (z := (255 : Int32)) rfl (q := 14) rfl ?_
  refine g_iand C d1_14 (q := 15) rfl ?_
  refine g_i2c C d1_15 (q := 16) rfl ?_
  obtain ⟨c1, ec1, hc1⟩ : ∃ y, y = (((XT.ushr x0 (8 : Int32)) &&& (255 : Int32)).toUInt32.toUInt16.toUInt32.toInt32) ∧ BY y := ⟨_, rfl, ext255 _⟩
  rw [← ec1]
  refine g_istoreN C d1_16 (L' := #[.val (.int x0), .val (.int c0), .val (.int c1), .unset, .unset]) rfl (q := 17) rfl ?_
  refine g_iloadN C d1_17 (v := x0) rfl (q := 18) rfl ?_
  refine g_bipush C d1_18 (z := (16 : Int32)) rfl (q := 20) rfl ?_
  refine g_iushr C d1_20 (q := 21) rfl ?_
  refine g_iconst C d1_21 (z := (3 : Int32)) rfl (q := 22) rfl ?_
  refine g_iand C d1_22 (q := 23) rfl ?_
  refine g_iconst C d1_23 (z := (3 : Int32)) rfl (q := 24) rfl ?_
  refine g_irem C d1_24 (by decide) (q := 25) rfl ?_
  refine g_istoreN C d1_25 (L' := #[.val (.int x0), .val (.int c0), .val (.int c1), .val (.int (((XT.ushr x0 (16 : Int32)) &&& (3 : Int32)) % (3 : Int32))), .unset]) rfl (q := 26) rfl ?_
  refine g_iloadN C d1_26 (v := (((XT.ushr x0 (16 : Int32)) &&& (3 : Int32)) % (3 : Int32))) rfl (q := 27) rfl ?_
  refine g_if_ne C d1_27 (q' := 33) (q := 30) (by decide) (by decide) rfl (fun hy => ?_) (fun hn => ?_)
  ·
    refine g_iloadN C d1_33 (v := (((XT.ushr x0 (16 : Int32)) &&& (3 : Int32)) % (3 : Int32))) rfl (q := 34) rfl ?_
    refine g_iconst C d1_34 (z := (1 : Int32)) rfl (q := 35) rfl ?_
    refine g_icmp_ne C d1_35 (q' := 43) (q := 38) (by decide) (by decide) rfl (fun hy => ?_) (fun hn => ?_)
    ·
      refine g_iconst C d1_43 (z := (2 : Int32)) rfl (q := 44) rfl ?_
      refine g_newarray C d1_44 (wd268 hw) (by decide) (cap := 2) (by decide) (by decide) (by decide) (by decide) (q := 46) rfl (fun b h1 k1 q1 E1 A1 => ?_)
      have B : Av Z h1 b .char 2 (fun _ => .int 0) := Av.new A1 (by decide)
      have gb : h0.size ≤ b := by rw [q1]; exact Nat.le_refl _
      have K : Keep h0 h1 [] := Ext.kp E1 []
      refine g_astore C d1_46 rfl (L' := #[.val (.int x0), .val (.int c0), .val (.int c1), .val (.int (((XT.ushr x0 (16 : Int32)) &&& (3 : Int32)) % (3 : Int32))), .val (.ref b)]) rfl (q := 48) rfl ?_
      refine g_aload C d1_48 (v := (.ref b)) rfl rfl (q := 50) rfl ?_
      refine g_iconst C d1_50 (z := (0 : Int32)) rfl (q := 51) rfl ?_
      refine g_iloadN C d1_51 (v := c0) rfl (q := 52) rfl ?_
      refine g_castore C d1_52 (i := 0) B (by decide) rfl (Nat.le_trans Z0 gb) (q := 53) rfl (fun g0 W B => ?_)
      have K := K.wr W (Or.inr gb)
      refine g_aload C d1_53 (v := (.ref b)) rfl rfl (q := 55) rfl ?_
      refine g_iconst C d1_55 (z := (1 : Int32)) rfl (q := 56) rfl ?_
      refine g_iloadN C d1_56 (v := c1) rfl (q := 57) rfl ?_
      refine g_castore C d1_57 (i := 1) B (by decide) rfl (Nat.le_trans Z0 gb) (q := 58) rfl (fun g1 W B => ?_)
      have K := K.wr W (Or.inr gb)
      refine g_new C d1_58 (wd269 hw) (wd6 hw) (wd5 hw) (by decide) (by decide) (q := 61) rfl (fun t h4 q4 E4 A4 D4 => ?_)
      refine g_dup C d1_61 rfl (q := 62) rfl ?_
      refine g_aload C d1_62 (v := (.ref b)) rfl rfl (q := 64) rfl ?_
      have A4' : Av Z h4 b .char 2 (fun j => .int ([c0, c1].getD j 0)) := (B.ext E4).congr (fun j hj => by
        obtain rfl | rfl : j = 0 ∨ j = 1 := by omega
        all_goals simp [byte_nar hc0, byte_nar hc1])
      have K4 : Keep h0 h4 [] := K.trans (Ext.kp E4 []) (by simp)
      have hcc : ∀ c ∈ [c0, c1], BY c := fun c hc => by
        simp only [List.mem_cons, List.not_mem_nil, or_false] at hc
        rcases hc with rfl | rfl
        · exact hc0
        · exact hc1
      refine g_callI C (W := 1) (argsL := [(.ref b)]) (rest := [(.ref t)]) (a := t) d1_64 rfl (wd270 hw) (wd271 hw) (wd272 hw) (by decide) (Ctr.bk (c_new1 l Z a0 G h4 n0 (Nat.le_trans Z0 K4.1) b [c0, c1] 2 rfl (by decide) hcc A4' (Ext.keep X0 K4 (by simp)) cz S0 hcz (by decide) t (by rw [q4]; exact Nat.le_trans Z0 K.1) A4 _ _ (D4 (Or.inr (wd8 hw)) (ty := .array .byte) (by decide)) (D4 (Or.inr (wd9 hw)) (ty := .byte) (by decide))) C (wd272 hw) (wd5 hw) (by decide) (by decide)) (by decide) (by decide) rfl (lenOf pd8 rfl) rfl rfl (q := 67) rfl (fun v5 h5 hQ5 => ?_)
      obtain ⟨rfl, K5, S5⟩ := hQ5
      refine ⟨[(.ref t)], rfl, ?_⟩
      have KK : Keep h0 h5 [] := K4.trans K5 (fun x hx => Or.inr (by cases List.mem_singleton.mp hx; rw [q4]; exact K.1))
      exact g_areturnW C (Sw.mono KK.1) d1_67 rfl rfl (Nat.le_refl _) (by decide) (by decide) (fun vm' hW => ⟨t, [c0, c1], rfl, KK, S5, by simp, CHv.keep KK (by simp) (CHv.warm39 (a0 := a0) C.2.2.2.2.1 G.2 hP0 hW).1⟩)
    ·
      refine g_iloadN C d1_38 (v := c0) rfl (q := 39) rfl ?_
      refine g_callS C (W := 0) (argsL := [(.int c0)]) (rest := []) d1_39 (wd287 hw) (wd288 hw) (wd5 hw) (wd289 hw) (by decide) (Ctr.bk (c_valueOf l Z a0 G cz S0 hcz h0 n0 X0 Z0 c0 hc0) C (wd289 hw) (wd5 hw) (by decide) (by decide)) (by decide) (by decide) rfl (lenOf pd9 rfl) rfl rfl (q := 42) rfl (fun v1 h1 hQ1 => ?_)
      obtain ⟨t, rfl, gt, K1, S1⟩ := hQ1
      refine ⟨[(.ref t)], rfl, ?_⟩
      exact g_areturnW C (Sw.mono K1.1) d1_42 rfl rfl (Nat.le_refl _) (by decide) (by decide) (fun vm' hW => ⟨t, [c0], rfl, K1, S1, by simp, CHv.keep K1 (by simp) (CHv.warm39 (a0 := a0) C.2.2.2.2.1 G.2 hP0 hW).1⟩)
  ·
    refine g_ldcX C Sw d1_30 (wd4 hw) wS G.2 (by simp [ELs]) hP0 (vs := []) (z := 0) ⟨by simp, rfl⟩ (by decide) rfl (nn := 0) (by decide) (by decide) (by decide) (by decide) (q := 32) rfl (fun q1 vm1 h1 b1 kb1 E1 C1 Sw1 CH1 Ea1 Fc1 Fv1 Ar1 Eb1 => ?_)
    have S1 : SE Z h1 q1 [] := ⟨b1, Ea1, Fc1, Fv1, (Av.of_arv (N := 0) Ar1 rfl).congr (fun j hj => absurd hj (by simp)), Eb1, fun c hc => by simp at hc⟩
    exact g_areturnW C1 Sw1 d1_32 rfl rfl (Nat.le_refl _) (by decide) (by decide) (fun vm' hW => ⟨q1, [], rfl, Ext.kp E1 [], S1, by simp, (CHv.warm39 (a0 := a0) C1.2.2.2.2.1 G.2 CH1.1 hW).1⟩)
def e8b (b : Int32) : List Int32 := if b < 0 then [((192 : Int32) ||| ((b &&& (255 : Int32)) >>> ((6 : Int32) &&& 31))).toInt8.toInt32, ((128 : Int32) ||| (b &&& (63 : Int32))).toInt8.toInt32] else [b]
def u8 (cs : List Int32) : List Int32 := cs.flatMap (fun c => e8b c.toInt8.toInt32)
theorem by_of {c : Int32} (h : BY c) : ∃ k : Fin 256, c = Int32.ofNat k.val := byte_of h
theorem e8_inv1 {c : Int32} (h : BY c) : (c.toInt8.toInt32 &&& 255) = c := by
  have t : ∀ k : Fin 256, ((Int32.ofNat k.val).toInt8.toInt32 &&& 255) = Int32.ofNat k.val := by decide +kernel
  obtain ⟨k, rfl⟩ := by_of h; exact t k
theorem e8_neg {c : Int32} (h : BY c) (hn : c.toInt8.toInt32 < 0) : ((192 : Int32) ||| ((c.toInt8.toInt32 &&& (255 : Int32)) >>> ((6 : Int32) &&& 31))).toInt8.toInt32 < 0 := by
  have t : ∀ k : Fin 256, (Int32.ofNat k.val).toInt8.toInt32 < 0 → ((192 : Int32) ||| (((Int32.ofNat k.val).toInt8.toInt32 &&& (255 : Int32)) >>> ((6 : Int32) &&& 31))).toInt8.toInt32 < 0 := by decide +kernel
  obtain ⟨k, rfl⟩ := by_of h; exact t k hn
theorem e8_inv2 {c : Int32} (h : BY c) (hn : c.toInt8.toInt32 < 0) : ((((192 : Int32) ||| ((c.toInt8.toInt32 &&& (255 : Int32)) >>> ((6 : Int32) &&& 31))).toInt8.toInt32 &&& 3) <<< 6) ||| (((128 : Int32) ||| (c.toInt8.toInt32 &&& (63 : Int32))).toInt8.toInt32 &&& 63) = c := by
  have t : ∀ k : Fin 256, (Int32.ofNat k.val).toInt8.toInt32 < 0 → ((((192 : Int32) ||| (((Int32.ofNat k.val).toInt8.toInt32 &&& (255 : Int32)) >>> ((6 : Int32) &&& 31))).toInt8.toInt32 &&& 3) <<< 6) ||| (((128 : Int32) ||| ((Int32.ofNat k.val).toInt8.toInt32 &&& (63 : Int32))).toInt8.toInt32 &&& 63) = Int32.ofNat k.val := by decide +kernel
  obtain ⟨k, rfl⟩ := by_of h; exact t k hn
theorem e8_cons {c d : Int32} (hc : BY c) (hd : BY d) {xs ys : List Int32} (h : e8b c.toInt8.toInt32 ++ xs = e8b d.toInt8.toInt32 ++ ys) : c = d ∧ xs = ys := by
  unfold e8b at h
  by_cases h1 : c.toInt8.toInt32 < 0 <;> by_cases h2 : d.toInt8.toInt32 < 0
  · rw [if_pos h1, if_pos h2] at h
    simp only [List.cons_append, List.nil_append, List.cons.injEq] at h
    obtain ⟨g1, g2, g3⟩ := h
    exact ⟨by rw [← e8_inv2 hc h1, ← e8_inv2 hd h2, g1, g2], g3⟩
  · rw [if_pos h1, if_neg h2] at h
    simp only [List.cons_append, List.nil_append, List.cons.injEq] at h
    exact absurd (h.1 ▸ e8_neg hc h1) h2
  · rw [if_neg h1, if_pos h2] at h
    simp only [List.cons_append, List.nil_append, List.cons.injEq] at h
    exact absurd (h.1 ▸ e8_neg hd h2) h1
  · rw [if_neg h1, if_neg h2] at h
    simp only [List.cons_append, List.nil_append, List.cons.injEq] at h
    exact ⟨by rw [← e8_inv1 hc, ← e8_inv1 hd, h.1], h.2⟩
theorem e8_ne (b : Int32) : e8b b ≠ [] := by unfold e8b; split <;> simp
theorem u8_inj : ∀ {cs ds : List Int32}, (∀ c ∈ cs, BY c) → (∀ c ∈ ds, BY c) → u8 cs = u8 ds → cs = ds
  | [], [], _, _, _ => rfl
  | [], d :: ds, _, _, h => absurd h.symm (by simp [u8, e8_ne])
  | c :: cs, [], _, _, h => absurd h (by simp [u8, e8_ne])
  | c :: cs, d :: ds, hc, hd, h => by
    have h' : e8b c.toInt8.toInt32 ++ u8 cs = e8b d.toInt8.toInt32 ++ u8 ds := by simpa [u8] using h
    obtain ⟨e1, e2⟩ := e8_cons (hc c (by simp)) (hd d (by simp)) h'
    rw [e1, u8_inj (fun x hx => hc x (by simp [hx])) (fun x hx => hd x (by simp [hx])) e2]
theorem e8_len (b : Int32) : (e8b b).length ≤ 2 := by unfold e8b; split <;> simp
theorem u8_len (cs : List Int32) : (u8 cs).length ≤ 2 * cs.length := by
  induction cs with
  | nil => simp [u8]
  | cons c cs ih => have := e8_len c.toInt8.toInt32; simp only [u8, List.flatMap_cons, List.length_append, List.length_cons] at ih ⊢; omega
theorem u8_take (cs : List Int32) (i : Nat) (hi : i < cs.length) : u8 (cs.take (i + 1)) = u8 (cs.take i) ++ e8b (cs.getD i 0).toInt8.toInt32 := by
  unfold u8
  rw [List.take_succ_eq_append_getElem hi, List.flatMap_append]
  congr 1
  simp [List.getD, hi]
theorem u8_pos : ∀ {cs : List Int32}, (∀ c ∈ cs, ¬ c.toInt8.toInt32 < 0) → u8 cs = cs.map (fun c => c.toInt8.toInt32)
  | [], _ => rfl
  | c :: cs, h => by
    have e1 : e8b c.toInt8.toInt32 = [c.toInt8.toInt32] := by unfold e8b; rw [if_neg (h c (by simp))]
    have e2 := u8_pos (cs := cs) (fun x hx => h x (by simp [hx]))
    have e3 : u8 (c :: cs) = e8b c.toInt8.toInt32 ++ u8 cs := by simp [u8]
    rw [e3, e1, e2]; rfl
theorem getD_app1 {xs ys : List Int32} {j : Nat} (h : j < xs.length) : (xs ++ ys).getD j 0 = xs.getD j 0 := by simp only [List.getD, List.getElem?_append_left h]
theorem getD_app2 {xs ys : List Int32} {k : Nat} : (xs ++ ys).getD (xs.length + k) 0 = ys.getD k 0 := by simp only [List.getD, List.getElem?_append_right (Nat.le_add_right _ _), Nat.add_sub_cancel_left]
theorem fits_b (x : Int32) : fits .byte (.int x.toInt8.toInt32) = true := by
  have h1 : -128 ≤ (x.toInt8.toInt32).toInt := by rw [Int8.toInt_toInt32]; exact Int8.le_toInt _
  have h2 : (x.toInt8.toInt32).toInt ≤ 127 := by rw [Int8.toInt_toInt32]; have := Int8.toInt_lt x.toInt8; omega
  show (decide ((-128 : Int32) ≤ x.toInt8.toInt32) && decide (x.toInt8.toInt32 ≤ 127)) = true
  rw [Bool.and_eq_true, decide_eq_true_eq, decide_eq_true_eq, Int32.le_iff_toInt_le, Int32.le_iff_toInt_le]
  exact ⟨h1, h2⟩
theorem e8_fit (c : Int32) : ∀ x ∈ e8b c.toInt8.toInt32, ∃ y : Int32, x = y.toInt8.toInt32 := by
  unfold e8b; split <;> intro x hx <;> simp only [List.mem_cons, List.not_mem_nil, or_false] at hx
  · rcases hx with rfl | rfl <;> exact ⟨_, rfl⟩
  · exact ⟨_, hx⟩
theorem u8_fit (cs : List Int32) : ∀ x ∈ u8 cs, fits .byte (.int x) = true := fun x hx => by
  simp only [u8, List.mem_flatMap] at hx
  obtain ⟨c, -, h2⟩ := hx
  obtain ⟨y, rfl⟩ := e8_fit c x h2
  exact fits_b y
theorem shl1 (i : Nat) : (Int32.ofNat i) <<< ((1 : Int32) &&& 31) = Int32.ofNat (2 * i) := by
  apply Int32.toBitVec_inj.mp
  have e : ((1 : Int32) &&& 31) = 1 := by decide
  rw [e]
  show BitVec.shiftLeft (BitVec.ofNat 32 i) 1 = BitVec.ofNat 32 (2 * i)
  apply BitVec.eq_of_toNat_eq
  simp [Nat.shiftLeft_eq, Nat.mul_comm]
abbrev rmC1 : Room := { frames := 1, cells := 1, slots := 16, locals := 40 }
abbrev rmC2 : Room := { frames := 2, cells := 2, slots := 32, locals := 72 }
abbrev rmC3 : Room := { frames := 3, cells := 2, slots := 32, locals := 104 }
abbrev rmC4 : Room := { frames := 4, cells := 2, slots := 32, locals := 128 }
set_option maxRecDepth 65536 in
set_option maxHeartbeats 40000000 in
theorem loopPos {p : Program} {e : Env} {s : State} {m : MethodId} {args : Array Value} {below : List Frame} {meth : Method} {c : Code} (l : Launch) (Z : State) (a0 : Array Value) (G : Gl Z a0) (h0 : Heap) (n0 : Nat) (b : Addr) (cs : List Int32) (n : Nat) (hcn : cs.length = n) (hn8 : n ≤ 8) (B : Av Z h0 b .byte n (fun j => .int ((cs.getD j 0).toInt8.toInt32))) (C : Cx p s m meth c Z "java/lang/StringCoding" "countPositives" jdk_123_method_3_code 5 (some .int)) (d i : Nat) (hd : d = n - i) (hin : i ≤ n) (hp : ∀ j, j < i → ¬ (cs.getD j 0).toInt8.toInt32 < 0) :
    Go p l e rmN0 s m args below meth c (FinN s below rmN0 n0 (fun v h => h0 = h ∧ ((v = some (.int (Int32.ofNat n)) ∧ ∀ j, j < n → ¬ (cs.getD j 0).toInt8.toInt32 < 0) ∨ ∃ i, i < n ∧ v = some (.int (Int32.ofNat i)) ∧ (cs.getD i 0).toInt8.toInt32 < 0))) n0 h0 0 0 7 #[.val (.ref b), .val (.int (0 : Int32)), .val (.int (Int32.ofNat n)), .val (.int (Int32.ofNat n)), .val (.int (Int32.ofNat i))] [] := by
  have hw := G.1
  induction d generalizing i with
  | zero =>
    obtain rfl : i = n := by omega
    refine g_iload C d18_7 (v := (Int32.ofNat i)) rfl (q := 9) rfl ?_
    refine g_iloadN C d18_9 (v := (Int32.ofNat i)) rfl (q := 10) rfl ?_
    refine g_icmp_ge C d18_10 (q' := 31) (q := 13) (by decide) (by decide) rfl (fun hy => ?_) (fun hn => absurd ((lt_iff (by omega) (by omega)).mp hn) (Nat.lt_irrefl _))
    refine g_iloadN C d18_31 (v := (Int32.ofNat i)) rfl (q := 32) rfl ?_
    refine g_ireturn C d18_32 (Nat.le_refl _) (by decide) (by decide) ⟨rfl, Or.inl ⟨rfl, hp⟩⟩
  | succ d ih =>
    have hi : i < n := by omega
    refine g_iload C d18_7 (v := (Int32.ofNat i)) rfl (q := 9) rfl ?_
    refine g_iloadN C d18_9 (v := (Int32.ofNat n)) rfl (q := 10) rfl ?_
    refine g_icmp_ge C d18_10 (q' := 31) (q := 13) (by decide) (by decide) rfl (fun hy => absurd ((lt_iff (by omega) (by omega)).mpr hi) hy) (fun hn => ?_)
    refine g_aloadN C d18_13 (v := (.ref b)) rfl rfl (q := 14) rfl ?_
    refine g_iload C d18_14 (v := (Int32.ofNat i)) rfl (q := 16) rfl ?_
    refine g_baload C d18_16 (i := i) B hi rfl rfl (q := 17) rfl ?_
    refine g_if_ge C d18_17 (q' := 25) (q := 20) (by decide) (by decide) rfl (fun q1 => ?_) (fun q1 => ?_)
    ·
      refine g_iinc C d18_25 rfl (L' := #[.val (.ref b), .val (.int (0 : Int32)), .val (.int (Int32.ofNat n)), .val (.int (Int32.ofNat n)), .val (.int ((Int32.ofNat i) + (1 : Int32)))]) rfl (q := 28) rfl ?_
      refine g_goto C d18_28 (q := 7) (by decide) (by decide) ?_
      rw [of_succ]
      exact ih (i + 1) (by omega) (by omega) (fun j hj => by
        by_cases e1 : j = i
        · rw [e1]; exact q1
        · exact hp j (by omega))
    ·
      refine g_iload C d18_20 (v := (Int32.ofNat i)) rfl (q := 22) rfl ?_
      refine g_iloadN C d18_22 (v := (0 : Int32)) rfl (q := 23) rfl ?_
      refine g_isub C d18_23 (q := 24) rfl ?_
      rw [Int32.sub_zero]
      refine g_ireturn C d18_24 (Nat.le_refl _) (by decide) (by decide) ⟨rfl, Or.inr ⟨i, hi, rfl, q1⟩⟩
set_option maxRecDepth 65536 in
set_option maxHeartbeats 40000000 in
theorem c_cntPos (l : Launch) (Z : State) (a0 : Array Value) (G : Gl Z a0) (h0 : Heap) (n0 : Nat) (b : Addr) (cs : List Int32) (n : Nat) (hcn : cs.length = n) (hn8 : n ≤ 8) (B : Av Z h0 b .byte n (fun j => .int ((cs.getD j 0).toInt8.toInt32))) :
    Ctr l Z (⟨"java/lang/StringCoding", "countPositives", "([BII)I"⟩ : MethodName) jdk_123_method_3_code 5 (some .int) rmN0 #[(.ref b), (.int (0 : Int32)), (.int (Int32.ofNat n))] h0 n0 (fun v h => h0 = h ∧ ((v = some (.int (Int32.ofNat n)) ∧ ∀ j, j < n → ¬ (cs.getD j 0).toInt8.toInt32 < 0) ∨ ∃ i, i < n ∧ v = some (.int (Int32.ofNat i)) ∧ (cs.getD i 0).toInt8.toInt32 < 0)) := by
  have hw := G.1
  refine Ctr.of (n1 := n0) #[.val (.ref b), .val (.int (0 : Int32)), .val (.int (Int32.ofNat n)), .unset, .unset] (plainFor_of_name pn4) (fun m => by first | (simp [entryFrame, mkF, argsToLocals, Value.category, maxLocals]; done) | rfl) ?_
  intro p e s m below meth c C
  refine g_iloadN C d18_0 (v := (0 : Int32)) rfl (q := 1) rfl ?_
  refine g_iloadN C d18_1 (v := (Int32.ofNat n)) rfl (q := 2) rfl ?_
  refine g_iadd C d18_2 (q := 3) rfl ?_
  rw [Int32.zero_add]
  refine g_istoreN C d18_3 (L' := #[.val (.ref b), .val (.int (0 : Int32)), .val (.int (Int32.ofNat n)), .val (.int (Int32.ofNat n)), .unset]) rfl (q := 4) rfl ?_
  refine g_iloadN C d18_4 (v := (0 : Int32)) rfl (q := 5) rfl ?_
  refine g_istore C d18_5 (L' := #[.val (.ref b), .val (.int (0 : Int32)), .val (.int (Int32.ofNat n)), .val (.int (Int32.ofNat n)), .val (.int (0 : Int32))]) rfl (q := 7) rfl ?_
  exact loopPos l Z a0 G h0 n0 b cs n hcn hn8 B C n 0 (by omega) (by omega) (fun j hj => absurd hj (by omega))
set_option maxRecDepth 65536 in
set_option maxHeartbeats 40000000 in
theorem c_hasNeg (l : Launch) (Z : State) (a0 : Array Value) (G : Gl Z a0) (h0 : Heap) (n0 : Nat) (b : Addr) (cs : List Int32) (n : Nat) (hcn : cs.length = n) (hn8 : n ≤ 8) (B : Av Z h0 b .byte n (fun j => .int ((cs.getD j 0).toInt8.toInt32))) :
    Ctr l Z (⟨"java/lang/StringCoding", "hasNegatives", "([BII)Z"⟩ : MethodName) jdk_123_method_2_code 3 (some .boolean) rmN1 #[(.ref b), (.int (0 : Int32)), (.int (Int32.ofNat n))] h0 n0 (fun v h => h0 = h ∧ ∃ r, v = some (.int r) ∧ AN (∃ i, i < n ∧ (cs.getD i 0).toInt8.toInt32 < 0) r) := by
  have hw := G.1
  refine Ctr.of (n1 := n0) #[.val (.ref b), .val (.int (0 : Int32)), .val (.int (Int32.ofNat n))] (plainFor_of_name pn4) (fun m => by first | (simp [entryFrame, mkF, argsToLocals, Value.category, maxLocals]; done) | rfl) ?_
  intro p e s m below meth c C
  refine g_aloadN C d17_0 (v := (.ref b)) rfl rfl (q := 1) rfl ?_
  refine g_iloadN C d17_1 (v := (0 : Int32)) rfl (q := 2) rfl ?_
  refine g_iloadN C d17_2 (v := (Int32.ofNat n)) rfl (q := 3) rfl ?_
  refine g_callS C (W := 0) (argsL := [(.ref b), (.int (0 : Int32)), (.int (Int32.ofNat n))]) (rest := []) d17_3 (wd126 hw) (wd127 hw) (wd124 hw) (wd128 hw) (by decide) (Ctr.bk (c_cntPos l Z a0 G h0 n0 b cs n hcn hn8 B) C (wd128 hw) (wd124 hw) (by decide) (by decide)) (by decide) (by decide) rfl (lenOf pd10 rfl) rfl rfl (q := 6) rfl (fun v1 h1 hQ1 => ?_)
  obtain ⟨rfl, hQ'⟩ := hQ1
  rcases hQ' with ⟨rfl, hp⟩ | ⟨i, hi, rfl, hp⟩
  ·
    refine ⟨[(.int (Int32.ofNat n))], rfl, ?_⟩
    refine g_iloadN C d17_6 (v := (Int32.ofNat n)) rfl (q := 7) rfl ?_
    refine g_icmp_eq C d17_7 (q' := 14) (q := 10) (by decide) (by decide) rfl (fun hy => ?_) (fun hn => absurd rfl hn)
    refine g_iconst C d17_14 (z := (0 : Int32)) rfl (q := 15) rfl ?_
    refine g_nreturn C d17_15 (by simp) (z := 0) rfl (Nat.le_refl _) (by decide) (by decide) ⟨rfl, _, rfl, Or.inr ⟨fun ⟨i, hi, q⟩ => hp i hi q, rfl⟩⟩
  ·
    refine ⟨[(.int (Int32.ofNat i))], rfl, ?_⟩
    refine g_iloadN C d17_6 (v := (Int32.ofNat n)) rfl (q := 7) rfl ?_
    refine g_icmp_eq C d17_7 (q' := 14) (q := 10) (by decide) (by decide) rfl (fun hy => absurd (of_inj (by omega) (by omega) hy) (by omega)) (fun hn => ?_)
    refine g_iconst C d17_10 (z := (1 : Int32)) rfl (q := 11) rfl ?_
    refine g_goto C d17_11 (q := 15) (by decide) (by decide) ?_
    refine g_nreturn C d17_15 (by simp) (z := 1) rfl (Nat.le_refl _) (by decide) (by decide) ⟨rfl, _, rfl, Or.inl ⟨⟨i, hi, hp⟩, rfl⟩⟩
set_option maxRecDepth 65536 in
set_option maxHeartbeats 40000000 in
theorem c_nbl (l : Launch) (Z : State) (a0 : Array Value) (G : Gl Z a0) (n : Nat) (hn8 : n ≤ 8) (h0 : Heap) (n0 : Nat) :
    Ctr l Z (⟨"java/lang/StringUTF16", "newBytesLength", "(I)I"⟩ : MethodName) jdk_52_method_3_code 1 (some .int) rmN0 #[(.int (Int32.ofNat n))] h0 n0 (fun v h => h0 = h ∧ v = some (.int (Int32.ofNat (2 * n)))) := by
  have hw := G.1
  refine Ctr.of (n1 := n0) #[.val (.int (Int32.ofNat n))] (plainFor_of_name pn2) (fun m => by first | (simp [entryFrame, mkF, argsToLocals, Value.category, maxLocals]; done) | rfl) ?_
  intro p e s m below meth c C
  refine g_iloadN C d49_0 (v := (Int32.ofNat n)) rfl (q := 1) rfl ?_
  refine g_if_ge C d49_1 (q' := 12) (q := 4) (by decide) (by decide) rfl (fun hy => ?_) (fun hn_ => absurd hn_ (nn32 (by omega)))
  refine g_iloadN C d49_12 (v := (Int32.ofNat n)) rfl (q := 13) rfl ?_
  refine g_ldcInt C d49_13 (wd307 hw) (q := 15) rfl ?_
  refine g_icmp_lt C d49_15 (q' := 55) (q := 18) (by decide) (by decide) rfl (fun hy => ?_) (fun hn_ => absurd ((lt_iff (b := 1073741823) (by omega) (by decide)).mpr (by omega)) hn_)
  refine g_iloadN C d49_55 (v := (Int32.ofNat n)) rfl (q := 56) rfl ?_
  refine g_iconst C d49_56 (z := (1 : Int32)) rfl (q := 57) rfl ?_
  refine g_ishl C d49_57 (q := 58) rfl ?_
  rw [shl1]
  refine g_ireturn C d49_58 (Nat.le_refl _) (by decide) (by decide) ⟨rfl, rfl⟩
set_option maxRecDepth 65536 in
set_option maxHeartbeats 40000000 in
theorem c_nbf (l : Launch) (Z : State) (a0 : Array Value) (G : Gl Z a0) (n : Nat) (hn8 : n ≤ 8) (h0 : Heap) (n0 : Nat) :
    Ctr l Z (⟨"java/lang/StringUTF16", "newBytesFor", "(I)[B"⟩ : MethodName) jdk_52_method_2_code 1 (some (.array .byte)) rmC1 #[(.int (Int32.ofNat n))] h0 n0 (fun v h => ∃ b, v = some (.ref b) ∧ h0.size ≤ b ∧ Ext h0 h ∧ Av Z h b .byte (2 * n) (fun _ => .int 0) ∧ Exa Z h b "[B") := by
  have hw := G.1
  refine Ctr.of (n1 := n0) #[.val (.int (Int32.ofNat n))] (plainFor_of_name pn2) (fun m => by first | (simp [entryFrame, mkF, argsToLocals, Value.category, maxLocals]; done) | rfl) ?_
  intro p e s m below meth c C
  refine g_iloadN C d48_0 (v := (Int32.ofNat n)) rfl (q := 1) rfl ?_
  refine g_callS C (W := 0) (argsL := [(.int (Int32.ofNat n))]) (rest := []) d48_1 (wd304 hw) (wd305 hw) (wd279 hw) (wd306 hw) (by decide) (Ctr.bk (c_nbl l Z a0 G n hn8 h0 n0) C (wd306 hw) (wd279 hw) (by decide) (by decide)) (by decide) (by decide) rfl (lenOf pd11 rfl) rfl rfl (q := 4) rfl (fun v1 h1 hQ1 => ?_)
  obtain ⟨rfl, rfl⟩ := hQ1
  refine ⟨[(.int (Int32.ofNat (2 * n)))], rfl, ?_⟩
  refine g_newarrayE C d48_4 (wd7 hw) (nn32 (by omega)) (cap := 16) (by rw [Int32.toNatClampNeg_ofNat_of_lt (by omega)]; omega) (by decide) (by decide) (by decide) (ad := "[B") rfl (q := 6) rfl (fun b h1 k1 q1 E1 A1 F1 => ?_)
  have B1 : Av Z h1 b .byte (2 * n) (fun _ => .int 0) := by
    have q := Av.new A1 (nn32 (show 2 * n < 2 ^ 31 by omega))
    rw [Int32.toNatClampNeg_ofNat_of_lt (by omega)] at q
    exact q
  refine g_areturn C d48_6 rfl rfl (Nat.le_refl _) (by decide) (by decide) ⟨b, rfl, by rw [q1]; exact Nat.le_refl _, E1, B1, F1⟩
set_option maxRecDepth 65536 in
set_option maxHeartbeats 40000000 in
theorem c_min (l : Launch) (Z : State) (a0 : Array Value) (G : Gl Z a0) (n k : Nat) (hk : k < n) (hn16 : n ≤ 16) (h0 : Heap) (n0 : Nat) :
    Ctr l Z (⟨"java/lang/Math", "min", "(II)I"⟩ : MethodName) jdk_29_method_69_code 2 (some .int) rmN0 #[(.int (Int32.ofNat n)), (.int (Int32.ofNat k))] h0 n0 (fun v h => h0 = h ∧ v = some (.int (Int32.ofNat k))) := by
  have hw := G.1
  refine Ctr.of (n1 := n0) #[.val (.int (Int32.ofNat n)), .val (.int (Int32.ofNat k))] (by decide +kernel) (fun m => by first | (simp [entryFrame, mkF, argsToLocals, Value.category, maxLocals]; done) | rfl) ?_
  intro p e s m below meth c C
  refine g_iloadN C d51_0 (v := (Int32.ofNat n)) rfl (q := 1) rfl ?_
  refine g_iloadN C d51_1 (v := (Int32.ofNat k)) rfl (q := 2) rfl ?_
  refine g_icmp_gt C d51_2 (q' := 9) (q := 5) (by decide) (by decide) rfl (fun hy => ?_) (fun hn_ => absurd ((lt_iff (by omega) (by omega)).mpr hk) hn_)
  refine g_iloadN C d51_9 (v := (Int32.ofNat k)) rfl (q := 10) rfl ?_
  refine g_ireturn C d51_10 (Nat.le_refl _) (by decide) (by decide) ⟨rfl, rfl⟩
set_option maxRecDepth 65536 in
set_option maxHeartbeats 40000000 in
theorem c_copyOf (l : Launch) (Z : State) (a0 : Array Value) (G : Gl Z a0) (b : Addr) (n k : Nat) (g : Nat → Value) (h0 : Heap) (n0 : Nat) (Z0 : n0 ≤ h0.size) (hk : k < n) (hn16 : n ≤ 16) (B : Av Z h0 b .byte n g) (hfit : ∀ j, j < n → fits .byte (g j) = true) :
    Ctr l Z (⟨"java/util/Arrays", "copyOf", "([BI)[B"⟩ : MethodName) jdk_65_method_121_code 3 (some (.array .byte)) rmC1 #[(.ref b), (.int (Int32.ofNat k))] h0 n0 (fun v h => ∃ r, v = some (.ref r) ∧ h0.size ≤ r ∧ Keep h0 h [] ∧ Av Z h r .byte k g ∧ Exa Z h r "[B") := by
  have hw := G.1
  refine Ctr.of (n1 := n0) #[.val (.ref b), .val (.int (Int32.ofNat k)), .unset] (plainFor_of_name pn5) (fun m => by first | (simp [entryFrame, mkF, argsToLocals, Value.category, maxLocals]; done) | rfl) ?_
  intro p e s m below meth c C
  refine g_iloadN C d50_0 (v := (Int32.ofNat k)) rfl (q := 1) rfl ?_
  refine g_aloadN C d50_1 (v := (.ref b)) rfl rfl (q := 2) rfl ?_
  refine g_alen C d50_2 B (z := (Int32.ofNat n)) rfl (q := 3) rfl ?_
  refine g_icmp_ne C d50_3 (q' := 14) (q := 6) (by decide) (by decide) rfl (fun hy => ?_) (fun hn_ => absurd (of_inj (by omega) (by omega) hn_) (by omega))
  refine g_iloadN C d50_14 (v := (Int32.ofNat k)) rfl (q := 15) rfl ?_
  refine g_newarrayE C d50_15 (wd7 hw) (nn32 (by omega)) (cap := 16) (by rw [Int32.toNatClampNeg_ofNat_of_lt (by omega)]; omega) (by decide) (by decide) (by decide) (ad := "[B") rfl (q := 17) rfl (fun r h1 k1 q1 E1 A1 F1 => ?_)
  have B1 : Av Z h1 r .byte k (fun _ => .int 0) := by
    have q := Av.new A1 (nn32 (show k < 2 ^ 31 by omega))
    rw [Int32.toNatClampNeg_ofNat_of_lt (by omega)] at q
    exact q
  have gr : h0.size ≤ r := by rw [q1]; exact Nat.le_refl _
  refine g_astoreN C d50_17 rfl (L' := #[.val (.ref b), .val (.int (Int32.ofNat k)), .val (.ref r)]) rfl (q := 18) rfl ?_
  refine g_aloadN C d50_18 (v := (.ref b)) rfl rfl (q := 19) rfl ?_
  refine g_iconst C d50_19 (z := (0 : Int32)) rfl (q := 20) rfl ?_
  refine g_aloadN C d50_20 (v := (.ref r)) rfl rfl (q := 21) rfl ?_
  refine g_iconst C d50_21 (z := (0 : Int32)) rfl (q := 22) rfl ?_
  refine g_aloadN C d50_22 (v := (.ref b)) rfl rfl (q := 23) rfl ?_
  refine g_alen C d50_23 (B.ext E1) (z := (Int32.ofNat n)) rfl (q := 24) rfl ?_
  refine g_iloadN C d50_24 (v := (Int32.ofNat k)) rfl (q := 25) rfl ?_
  refine g_callS C (W := 4) (argsL := [(.int (Int32.ofNat n)), (.int (Int32.ofNat k))]) (rest := [(.int (0 : Int32)), (.ref r), (.int (0 : Int32)), (.ref b)]) d50_25 (wd311 hw) (wd312 hw) (wd69 hw) (wd313 hw) (by decide) (Ctr.bk (c_min l Z a0 G n k hk hn16 h1 n0) C (wd313 hw) (wd69 hw) (by decide) (by decide)) (by decide) (by decide) rfl (lenOf pd12 rfl) rfl rfl (q := 28) rfl (fun v2 h2 hQ2 => ?_)
  obtain ⟨rfl, rfl⟩ := hQ2
  refine ⟨[(.int (Int32.ofNat k)), (.int (0 : Int32)), (.ref r), (.int (0 : Int32)), (.ref b)], rfl, ?_⟩
  refine g_acopy C  d50_28 (wd314 hw) (wd241 hw) (wd239 hw) (wd240 hw) (B.ext E1) B1 rfl hfit (fun j hj => rfl) (sp := 0) rfl (dp := 0) rfl rfl (by omega) (by omega) (Nat.le_trans Z0 gr) rfl (by decide) (W := 0) rfl (by decide) (q := 31) rfl (fun h3 K3 A3 => ?_)
  refine g_aloadN C d50_31 (v := (.ref r)) rfl rfl (q := 32) rfl ?_
  refine g_areturn C d50_32 rfl rfl (Nat.le_refl _) (by decide) (by decide) ⟨r, rfl, gr, (Ext.kp E1 []).trans K3 (fun x hx => Or.inr (by cases List.mem_singleton.mp hx; exact gr)), A3.congr (fun j hj => by rw [if_pos ⟨Nat.zero_le _, by omega⟩, Nat.zero_add, Nat.sub_zero]), F1.keep K3⟩
set_option maxRecDepth 65536 in
set_option maxHeartbeats 40000000 in
theorem loopEnc {p : Program} {e : Env} {s : State} {m : MethodId} {args : Array Value} {below : List Frame} {meth : Method} {c : Code} (l : Launch) (Z : State) (a0 : Array Value) (G : Gl Z a0) (h0 : Heap) (n0 : Nat) (Z0 : n0 ≤ h0.size) (b : Addr) (cs : List Int32) (n : Nat) (hcn : cs.length = n) (hn8 : n ≤ 8) (B : Av Z h0 b .byte n (fun j => .int ((cs.getD j 0).toInt8.toInt32))) (C : Cx p s m meth c Z "java/lang/String" "encodeUTF8" jdk_42_method_46_code 9 (some (.array .byte))) (ds : Addr) (gd : h0.size ≤ ds) (d i : Nat) (h : Heap) (g : Nat → Value) (s8 : Slot) (hd : d = n - i) (hin : i ≤ n) (K : Keep h0 h []) (D : Av Z h ds .byte (2 * n) g) (ED : Exa Z h ds "[B") (hg : ∀ j, j < (u8 (cs.take i)).length → g j = .int ((u8 (cs.take i)).getD j 0)) (hfit : ∀ j, j < 2 * n → fits .byte (g j) = true) (hs8 : s8 = .unset ∨ ∃ x, s8 = .val (.int x)) :
    Go p l e rmC2 s m args below meth c (FinN s below rmC2 n0 (fun v h => ∃ r, v = some (.ref r) ∧ h0.size ≤ r ∧ Keep h0 h [] ∧ Av Z h r .byte (u8 cs).length (fun j => .int ((u8 cs).getD j 0)) ∧ Exa Z h r "[B")) n0 h 1 16 49 #[.val (.int (0 : Int32)), .val (.ref b), .val (.int (1 : Int32)), .val (.int (Int32.ofNat (u8 (cs.take i)).length)), .val (.ref ds), .val (.ref b), .val (.int (Int32.ofNat n)), .val (.int (Int32.ofNat i)), s8] [] := by
  have hw := G.1
  induction d generalizing i h g s8 with
  | zero =>
    obtain rfl : i = n := by omega
    have et : cs.take i = cs := List.take_of_length_le (by omega)
    have ul := u8_len cs
    rw [et] at hg
    rw [et]
    refine g_iload C d16_49 (v := (Int32.ofNat i)) rfl (q := 51) rfl ?_
    refine g_iload C d16_51 (v := (Int32.ofNat i)) rfl (q := 53) rfl ?_
    refine g_icmp_ge C d16_53 (q' := 124) (q := 56) (by decide) (by decide) rfl (fun hy => ?_) (fun hn => absurd ((lt_iff (by omega) (by omega)).mp hn) (Nat.lt_irrefl _))
    refine g_iloadN C d16_124 (v := (Int32.ofNat (u8 cs).length)) rfl (q := 125) rfl ?_
    refine g_aload C d16_125 (v := (.ref ds)) rfl rfl (q := 127) rfl ?_
    refine g_alen C d16_127 D (z := (Int32.ofNat (2 * i))) rfl (q := 128) rfl ?_
    refine g_icmp_ne C d16_128 (q' := 134) (q := 131) (by decide) (by decide) rfl (fun q1 => ?_) (fun q1 => ?_)
    ·
      refine g_aload C d16_134 (v := (.ref ds)) rfl rfl (q := 136) rfl ?_
      refine g_iloadN C d16_136 (v := (Int32.ofNat (u8 cs).length)) rfl (q := 137) rfl ?_
      refine g_callS C (W := 0) (argsL := [(.ref ds), (.int (Int32.ofNat (u8 cs).length))]) (rest := []) d16_137 (wd308 hw) (wd309 hw) (wd254 hw) (wd310 hw) (by decide) (Ctr.bk (c_copyOf l Z a0 G ds (2 * i) (u8 cs).length g h n0 (Nat.le_trans Z0 K.1) (Nat.lt_of_le_of_ne (by omega) (fun q => q1 (by rw [q]))) (by omega) D hfit) C (wd310 hw) (wd254 hw) (by decide) (by decide)) (by decide) (by decide) rfl (lenOf pd13 rfl) rfl rfl (q := 140) rfl (fun v1 h1 hQ1 => ?_)
      obtain ⟨r, rfl, gr, K1, R1, ER⟩ := hQ1
      refine ⟨[(.ref r)], rfl, ?_⟩
      refine g_areturn C d16_140 rfl rfl (Nat.le_refl _) (by decide) (by decide) ⟨r, rfl, Nat.le_trans K.1 gr, K.trans K1 (by simp), R1.congr hg, ER⟩
    ·
      have e2 : (u8 cs).length = 2 * i := of_inj (by omega) (by omega) q1
      refine g_aload C d16_131 (v := (.ref ds)) rfl rfl (q := 133) rfl ?_
      refine g_areturn C d16_133 rfl rfl (Nat.le_refl _) (by decide) (by decide) ⟨ds, rfl, gd, K, by rw [e2]; exact D.congr (fun j hj => hg j (by omega)), ED⟩
  | succ d ih =>
    have hi : i < n := by omega
    have B1 := B.keep K (by simp)
    have ut := u8_take cs i (by omega)
    have ul := u8_len (cs.take i)
    have tl : (cs.take i).length = i := by rw [List.length_take]; omega
    have gn : n0 ≤ ds := Nat.le_trans Z0 gd
    refine g_iload C d16_49 (v := (Int32.ofNat i)) rfl (q := 51) rfl ?_
    refine g_iload C d16_51 (v := (Int32.ofNat n)) rfl (q := 53) rfl ?_
    refine g_icmp_ge C d16_53 (q' := 124) (q := 56) (by decide) (by decide) rfl (fun hy => absurd ((lt_iff (by omega) (by omega)).mpr hi) hy) (fun hn => ?_)
    refine g_aload C d16_56 (v := (.ref b)) rfl rfl (q := 58) rfl ?_
    refine g_iload C d16_58 (v := (Int32.ofNat i)) rfl (q := 60) rfl ?_
    refine g_baload C d16_60 (i := i) B1 hi rfl rfl (q := 61) rfl ?_
    have stX : ∀ v, storeLocals #[.val (.int (0 : Int32)), .val (.ref b), .val (.int (1 : Int32)), .val (.int (Int32.ofNat (u8 (cs.take i)).length)), .val (.ref ds), .val (.ref b), .val (.int (Int32.ofNat n)), .val (.int (Int32.ofNat i)), s8] 8 (.int v) = some #[.val (.int (0 : Int32)), .val (.ref b), .val (.int (1 : Int32)), .val (.int (Int32.ofNat (u8 (cs.take i)).length)), .val (.ref ds), .val (.ref b), .val (.int (Int32.ofNat n)), .val (.int (Int32.ofNat i)), .val (.int v)] := fun v => by rcases hs8 with rfl | ⟨x, rfl⟩ <;> rfl
    refine g_istore C d16_61 (L' := #[.val (.int (0 : Int32)), .val (.ref b), .val (.int (1 : Int32)), .val (.int (Int32.ofNat (u8 (cs.take i)).length)), .val (.ref ds), .val (.ref b), .val (.int (Int32.ofNat n)), .val (.int (Int32.ofNat i)), .val (.int ((cs.getD i 0).toInt8.toInt32))]) (stX _) (q := 63) rfl ?_
    refine g_iload C d16_63 (v := ((cs.getD i 0).toInt8.toInt32)) rfl (q := 65) rfl ?_
    refine g_if_ge C d16_65 (q' := 109) (q := 68) (by decide) (by decide) rfl (fun q1 => ?_) (fun q1 => ?_)
    ·
      have e8 : e8b (cs.getD i 0).toInt8.toInt32 = [(cs.getD i 0).toInt8.toInt32] := by unfold e8b; rw [if_neg q1]
      refine g_aload C d16_109 (v := (.ref ds)) rfl rfl (q := 111) rfl ?_
      refine g_iloadN C d16_111 (v := (Int32.ofNat (u8 (cs.take i)).length)) rfl (q := 112) rfl ?_
      refine g_iinc C d16_112 rfl (L' := #[.val (.int (0 : Int32)), .val (.ref b), .val (.int (1 : Int32)), .val (.int ((Int32.ofNat (u8 (cs.take i)).length) + (1 : Int32))), .val (.ref ds), .val (.ref b), .val (.int (Int32.ofNat n)), .val (.int (Int32.ofNat i)), .val (.int ((cs.getD i 0).toInt8.toInt32))]) rfl (q := 115) rfl ?_
      refine g_iload C d16_115 (v := ((cs.getD i 0).toInt8.toInt32)) rfl (q := 117) rfl ?_
      rw [of_succ]
      refine g_bastore C d16_117 (i := (u8 (cs.take i)).length) D (by omega) rfl gn (q := 118) rfl (fun h1 W1 D => ?_)
      refine g_iinc C d16_118 rfl (L' := #[.val (.int (0 : Int32)), .val (.ref b), .val (.int (1 : Int32)), .val (.int (Int32.ofNat ((u8 (cs.take i)).length + 1))), .val (.ref ds), .val (.ref b), .val (.int (Int32.ofNat n)), .val (.int ((Int32.ofNat i) + (1 : Int32))), .val (.int ((cs.getD i 0).toInt8.toInt32))]) rfl (q := 121) rfl ?_
      refine g_goto C d16_121 (q := 49) (by decide) (by decide) ?_
      rw [of_succ, show (u8 (cs.take i)).length + 1 = (u8 (cs.take (i + 1))).length from by rw [ut, e8, List.length_append]; rfl]
      exact ih (i + 1) h1 _ _ (by omega) (by omega) (K.wr W1 (Or.inr gd)) D (ED.wr W1) (fun j hj => by
        rw [ut] at hj ⊢
        rw [e8, List.length_append] at hj
        simp only [List.length_cons, List.length_nil] at hj
        rw [e8]
        by_cases e1 : j = (u8 (cs.take i)).length
        · rw [if_pos e1, e1, show (u8 (cs.take i)).length = (u8 (cs.take i)).length + 0 from rfl, getD_app2, nar_b]; rfl
        · rw [if_neg e1, getD_app1 (by omega)]; exact hg j (by omega)) (fun j hj => by
        by_cases e1 : j = (u8 (cs.take i)).length
        · rw [if_pos e1, nar_b]; exact fits_b _
        · rw [if_neg e1]; exact hfit j hj) (Or.inr ⟨_, rfl⟩)
    ·
      have e8 : e8b (cs.getD i 0).toInt8.toInt32 = [(((192 : Int32) ||| (((cs.getD i 0).toInt8.toInt32 &&& (255 : Int32)) >>> ((6 : Int32) &&& 31))).toInt8.toInt32), (((128 : Int32) ||| ((cs.getD i 0).toInt8.toInt32 &&& (63 : Int32))).toInt8.toInt32)] := by unfold e8b; rw [if_pos q1]
      refine g_aload C d16_68 (v := (.ref ds)) rfl rfl (q := 70) rfl ?_
      refine g_iloadN C d16_70 (v := (Int32.ofNat (u8 (cs.take i)).length)) rfl (q := 71) rfl ?_
      refine g_iinc C d16_71 rfl (L' := #[.val (.int (0 : Int32)), .val (.ref b), .val (.int (1 : Int32)), .val (.int ((Int32.ofNat (u8 (cs.take i)).length) + (1 : Int32))), .val (.ref ds), .val (.ref b), .val (.int (Int32.ofNat n)), .val (.int (Int32.ofNat i)), .val (.int ((cs.getD i 0).toInt8.toInt32))]) rfl (q := 74) rfl ?_
      refine g_sipush C d16_74 (z := (192 : Int32)) rfl (q := 77) rfl ?_
      refine g_iload C d16_77 (v := ((cs.getD i 0).toInt8.toInt32)) rfl (q := 79) rfl ?_
      refine g_sipush C d16_79 (z := (255 : Int32)) rfl (q := 82) rfl ?_
      refine g_iand C d16_82 (q := 83) rfl ?_
      refine g_bipush C d16_83 (z := (6 : Int32)) rfl (q := 85) rfl ?_
      refine g_ishr C d16_85 (q := 86) rfl ?_
      refine g_ior C d16_86 (q := 87) rfl ?_
      refine g_i2b C d16_87 (q := 88) rfl ?_
      rw [of_succ]
      refine g_bastore C d16_88 (i := (u8 (cs.take i)).length) D (by omega) rfl gn (q := 89) rfl (fun h1 W1 D => ?_)
      refine g_aload C d16_89 (v := (.ref ds)) rfl rfl (q := 91) rfl ?_
      refine g_iloadN C d16_91 (v := (Int32.ofNat ((u8 (cs.take i)).length + 1))) rfl (q := 92) rfl ?_
      refine g_iinc C d16_92 rfl (L' := #[.val (.int (0 : Int32)), .val (.ref b), .val (.int (1 : Int32)), .val (.int ((Int32.ofNat ((u8 (cs.take i)).length + 1)) + (1 : Int32))), .val (.ref ds), .val (.ref b), .val (.int (Int32.ofNat n)), .val (.int (Int32.ofNat i)), .val (.int ((cs.getD i 0).toInt8.toInt32))]) rfl (q := 95) rfl ?_
      refine g_sipush C d16_95 (z := (128 : Int32)) rfl (q := 98) rfl ?_
      refine g_iload C d16_98 (v := ((cs.getD i 0).toInt8.toInt32)) rfl (q := 100) rfl ?_
      refine g_bipush C d16_100 (z := (63 : Int32)) rfl (q := 102) rfl ?_
      refine g_iand C d16_102 (q := 103) rfl ?_
      refine g_ior C d16_103 (q := 104) rfl ?_
      refine g_i2b C d16_104 (q := 105) rfl ?_
      rw [of_succ]
      refine g_bastore C d16_105 (i := ((u8 (cs.take i)).length + 1)) D (by omega) rfl gn (q := 106) rfl (fun h2 W2 D => ?_)
      refine g_goto C d16_106 (q := 118) (by decide) (by decide) ?_
      refine g_iinc C d16_118 rfl (L' := #[.val (.int (0 : Int32)), .val (.ref b), .val (.int (1 : Int32)), .val (.int (Int32.ofNat ((u8 (cs.take i)).length + 1 + 1))), .val (.ref ds), .val (.ref b), .val (.int (Int32.ofNat n)), .val (.int ((Int32.ofNat i) + (1 : Int32))), .val (.int ((cs.getD i 0).toInt8.toInt32))]) rfl (q := 121) rfl ?_
      refine g_goto C d16_121 (q := 49) (by decide) (by decide) ?_
      rw [of_succ, show (u8 (cs.take i)).length + 1 + 1 = (u8 (cs.take (i + 1))).length from by rw [ut, e8, List.length_append]; rfl]
      exact ih (i + 1) h2 _ _ (by omega) (by omega) ((K.wr W1 (Or.inr gd)).wr W2 (Or.inr gd)) D (ED.wr W1 |>.wr W2) (fun j hj => by
        rw [ut] at hj ⊢
        rw [e8, List.length_append] at hj
        simp only [List.length_cons, List.length_nil] at hj
        rw [e8]
        by_cases e2 : j = (u8 (cs.take i)).length + 1
        · rw [if_pos e2, e2, getD_app2, nar_b]; rfl
        · by_cases e1 : j = (u8 (cs.take i)).length
          · rw [if_neg e2, if_pos e1, e1, show (u8 (cs.take i)).length = (u8 (cs.take i)).length + 0 from rfl, getD_app2, nar_b]; rfl
          · rw [if_neg e2, if_neg e1, getD_app1 (by omega)]; exact hg j (by omega)) (fun j hj => by
        by_cases e2 : j = (u8 (cs.take i)).length + 1
        · rw [if_pos e2, nar_b]; exact fits_b _
        · by_cases e1 : j = (u8 (cs.take i)).length
          · rw [if_neg e2, if_pos e1, nar_b]; exact fits_b _
          · rw [if_neg e2, if_neg e1]; exact hfit j hj) (Or.inr ⟨_, rfl⟩)
set_option maxRecDepth 65536 in
set_option maxHeartbeats 40000000 in
theorem c_enc8 (l : Launch) (Z : State) (a0 : Array Value) (G : Gl Z a0) (h0 : Heap) (n0 : Nat) (Z0 : n0 ≤ h0.size) (b : Addr) (cs : List Int32) (n : Nat) (hcn : cs.length = n) (hn8 : n ≤ 8) (B : Av Z h0 b .byte n (fun j => .int ((cs.getD j 0).toInt8.toInt32))) (EB : Exa Z h0 b "[B") :
    Ctr l Z (⟨"java/lang/String", "encodeUTF8", "(B[BZ)[B"⟩ : MethodName) jdk_42_method_46_code 9 (some (.array .byte)) rmC2 #[(.int (0 : Int32)), (.ref b), (.int (1 : Int32))] h0 n0 (fun v h => ∃ r, v = some (.ref r) ∧ h0.size ≤ r ∧ Keep h0 h [] ∧ Av Z h r .byte (u8 cs).length (fun j => .int ((u8 cs).getD j 0)) ∧ Exa Z h r "[B") := by
  have hw := G.1
  refine Ctr.of (n1 := n0) #[.val (.int (0 : Int32)), .val (.ref b), .val (.int (1 : Int32)), .unset, .unset, .unset, .unset, .unset, .unset] (plainFor_of_name pn1) (fun m => by first | (simp [entryFrame, mkF, argsToLocals, Value.category, maxLocals]; done) | rfl) ?_
  intro p e s m below meth c C
  refine g_iloadN C d16_0 (v := (0 : Int32)) rfl (q := 1) rfl ?_
  refine g_iconst C d16_1 (z := (1 : Int32)) rfl (q := 2) rfl ?_
  refine g_icmp_ne C d16_2 (q' := 11) (q := 5) (by decide) (by decide) rfl (fun hy => ?_) (fun hn => absurd hn (by decide))
  refine g_aloadN C d16_11 (v := (.ref b)) rfl rfl (q := 12) rfl ?_
  refine g_iconst C d16_12 (z := (0 : Int32)) rfl (q := 13) rfl ?_
  refine g_aloadN C d16_13 (v := (.ref b)) rfl rfl (q := 14) rfl ?_
  refine g_alen C d16_14 B (z := (Int32.ofNat n)) rfl (q := 15) rfl ?_
  refine g_callS C (W := 0) (argsL := [(.ref b), (.int (0 : Int32)), (.int (Int32.ofNat n))]) (rest := []) d16_15 (wd122 hw) (wd123 hw) (wd124 hw) (wd125 hw) (by decide) (Ctr.bk (c_hasNeg l Z a0 G h0 n0 b cs n hcn hn8 B) C (wd125 hw) (wd124 hw) (by decide) (by decide)) (by decide) (by decide) rfl (lenOf pd14 rfl) rfl rfl (q := 18) rfl (fun v1 h1 hQ1 => ?_)
  obtain ⟨rfl, r0, rfl, hA⟩ := hQ1
  refine ⟨[(.int r0)], rfl, ?_⟩
  rcases hA with ⟨hN, rfl⟩ | ⟨hN, rfl⟩
  ·
    refine g_if_ne C d16_18 (q' := 29) (q := 21) (by decide) (by decide) rfl (fun hy => ?_) (fun hn => absurd hn (by decide))
    refine g_iconst C d16_29 (z := (0 : Int32)) rfl (q := 30) rfl ?_
    refine g_istoreN C d16_30 (L' := #[.val (.int (0 : Int32)), .val (.ref b), .val (.int (1 : Int32)), .val (.int (0 : Int32)), .unset, .unset, .unset, .unset, .unset]) rfl (q := 31) rfl ?_
    refine g_aloadN C d16_31 (v := (.ref b)) rfl rfl (q := 32) rfl ?_
    refine g_alen C d16_32 B (z := (Int32.ofNat n)) rfl (q := 33) rfl ?_
    refine g_callS C (W := 0) (argsL := [(.int (Int32.ofNat n))]) (rest := []) d16_33 (wd301 hw) (wd302 hw) (wd279 hw) (wd303 hw) (by decide) (Ctr.bk (c_nbf l Z a0 G n hn8 h0 n0) C (wd303 hw) (wd279 hw) (by decide) (by decide)) (by decide) (by decide) rfl (lenOf pd15 rfl) rfl rfl (q := 36) rfl (fun v1 h1 hQ1 => ?_)
    obtain ⟨ds, rfl, gd, E1, D1, F1⟩ := hQ1
    refine ⟨[(.ref ds)], rfl, ?_⟩
    refine g_astore C d16_36 rfl (L' := #[.val (.int (0 : Int32)), .val (.ref b), .val (.int (1 : Int32)), .val (.int (0 : Int32)), .val (.ref ds), .unset, .unset, .unset, .unset]) rfl (q := 38) rfl ?_
    refine g_aloadN C d16_38 (v := (.ref b)) rfl rfl (q := 39) rfl ?_
    refine g_astore C d16_39 rfl (L' := #[.val (.int (0 : Int32)), .val (.ref b), .val (.int (1 : Int32)), .val (.int (0 : Int32)), .val (.ref ds), .val (.ref b), .unset, .unset, .unset]) rfl (q := 41) rfl ?_
    refine g_aload C d16_41 (v := (.ref b)) rfl rfl (q := 43) rfl ?_
    refine g_alen C d16_43 (B.ext E1) (z := (Int32.ofNat n)) rfl (q := 44) rfl ?_
    refine g_istore C d16_44 (L' := #[.val (.int (0 : Int32)), .val (.ref b), .val (.int (1 : Int32)), .val (.int (0 : Int32)), .val (.ref ds), .val (.ref b), .val (.int (Int32.ofNat n)), .unset, .unset]) rfl (q := 46) rfl ?_
    refine g_iconst C d16_46 (z := (0 : Int32)) rfl (q := 47) rfl ?_
    refine g_istore C d16_47 (L' := #[.val (.int (0 : Int32)), .val (.ref b), .val (.int (1 : Int32)), .val (.int (0 : Int32)), .val (.ref ds), .val (.ref b), .val (.int (Int32.ofNat n)), .val (.int (0 : Int32)), .unset]) rfl (q := 49) rfl ?_
    exact loopEnc l Z a0 G h0 n0 Z0 b cs n hcn hn8 B C ds gd n 0 h1 _ _ (by omega) (by omega) (Ext.kp E1 []) D1 F1 (fun j hj => absurd hj (by simp [u8])) (fun j hj => rfl) (Or.inl rfl)
  ·
    refine g_if_ne C d16_18 (q' := 29) (q := 21) (by decide) (by decide) rfl (fun hy => absurd rfl hy) (fun hn => ?_)
    refine g_aloadN C d16_21 (v := (.ref b)) rfl rfl (q := 22) rfl ?_
    refine g_clone C d16_22 (wd129 hw) (wd130 hw) (wd134 hw) (wd132 hw) (wd133 hw) (wd135 hw) B (fun j hj => fits_b _) EB rfl (by decide) (W := 0) rfl (by decide) (cap := 8) hn8 (by decide) (by decide) (q := 25) rfl (fun r h1 q1 E1 A1 F1 => ?_)
    refine g_castY C d16_25 (wd136 hw) (Ins.self F1) (q := 28) rfl ?_
    have eu : u8 cs = cs.map (fun c => c.toInt8.toInt32) := u8_pos (fun c hc q => by
      obtain ⟨j, hj, rfl⟩ := List.getElem_of_mem hc
      exact hN ⟨j, by omega, by simpa [List.getD, hj] using q⟩)
    refine g_areturn C d16_28 rfl rfl (Nat.le_refl _) (by decide) (by decide) ⟨r, rfl, by rw [q1]; exact Nat.le_refl _, Ext.kp E1 [], by
        rw [eu, List.length_map, hcn]
        exact A1.congr (fun j hj => by simp [List.getD, show j < cs.length by omega]), F1⟩
set_option maxRecDepth 65536 in
set_option maxHeartbeats 40000000 in
theorem c_encd (l : Launch) (Z : State) (a0 : Array Value) (G : Gl Z a0) (h0 : Heap) (n0 : Nat) (Z0 : n0 ≤ h0.size) (u : Addr) (SI : Sta Z Z.heap "sun/nio/cs/UTF_8" "INSTANCE" "Lsun/nio/cs/UTF_8;" (.ref u)) (X0 : Ext Z.heap h0) (b : Addr) (cs : List Int32) (n : Nat) (hcn : cs.length = n) (hn8 : n ≤ 8) (B : Av Z h0 b .byte n (fun j => .int ((cs.getD j 0).toInt8.toInt32))) (EB : Exa Z h0 b "[B") :
    Ctr l Z (⟨"java/lang/String", "encode", "(Ljava/nio/charset/Charset;B[B)[B"⟩ : MethodName) jdk_42_method_18_code 3 (some (.array .byte)) rmC3 #[(.ref u), (.int (0 : Int32)), (.ref b)] h0 n0 (fun v h => ∃ r, v = some (.ref r) ∧ h0.size ≤ r ∧ Keep h0 h [] ∧ Av Z h r .byte (u8 cs).length (fun j => .int ((u8 cs).getD j 0)) ∧ Exa Z h r "[B") := by
  have hw := G.1
  refine Ctr.of (n1 := n0) #[.val (.ref u), .val (.int (0 : Int32)), .val (.ref b)] (plainFor_of_name pn1) (fun m => by first | (simp [entryFrame, mkF, argsToLocals, Value.category, maxLocals]; done) | rfl) ?_
  intro p e s m below meth c C
  refine g_aloadN C d15_0 (v := (.ref u)) rfl rfl (q := 1) rfl ?_
  refine g_gets C d15_1 (host := "") (Or.inl (wd117 hw)) Via.refl (SI.ext X0) (q := 4) rfl ?_
  refine g_acmp_ne C d15_4 rfl rfl (q' := 14) (q := 7) (by decide) (by decide) rfl (fun hy => absurd rfl hy) (fun hn => ?_)
  refine g_iloadN C d15_7 (v := (0 : Int32)) rfl (q := 8) rfl ?_
  refine g_aloadN C d15_8 (v := (.ref b)) rfl rfl (q := 9) rfl ?_
  refine g_iconst C d15_9 (z := (1 : Int32)) rfl (q := 10) rfl ?_
  refine g_callS C (W := 0) (argsL := [(.int (0 : Int32)), (.ref b), (.int (1 : Int32))]) (rest := []) d15_10 (wd119 hw) (wd120 hw) (wd5 hw) (wd121 hw) (by decide) (Ctr.bk (c_enc8 l Z a0 G h0 n0 Z0 b cs n hcn hn8 B EB) C (wd121 hw) (wd5 hw) (by decide) (by decide)) (by decide) (by decide) rfl (lenOf pd16 rfl) rfl rfl (q := 13) rfl (fun v1 h1 hQ1 => ?_)
  obtain ⟨r, rfl, gr, K1, R1, ER⟩ := hQ1
  refine ⟨[(.ref r)], rfl, ?_⟩
  refine g_areturn C d15_13 rfl rfl (Nat.le_refl _) (by decide) (by decide) ⟨r, rfl, gr, K1, R1, ER⟩
set_option maxRecDepth 65536 in
set_option maxHeartbeats 40000000 in
theorem c_coder (l : Launch) (Z : State) (a0 : Array Value) (G : Gl Z a0) (cz : Int32) (S0 : Sta Z Z.heap "java/lang/String" "COMPACT_STRINGS" "Z" (.int cz)) (hcz : ¬ cz = 0) (a : Addr) (h0 : Heap) (n0 : Nat) (X0 : Ext Z.heap h0) (F : Fld Z h0 a "java/lang/String" "coder" "B" (.int 0)) :
    Ctr l Z (⟨"java/lang/String", "coder", "()B"⟩ : MethodName) jdk_42_method_152_code 1 (some .byte) rmN0 #[(.ref a)] h0 n0 (fun v h => h0 = h ∧ v = some (.int 0)) := by
  have hw := G.1
  refine Ctr.of (n1 := n0) #[.val (.ref a)] (plainFor_of_name pn1) (fun m => by first | (simp [entryFrame, mkF, argsToLocals, Value.category, maxLocals]; done) | rfl) ?_
  intro p e s m below meth c C
  refine g_gets C d14_0 (host := "") (Or.inl (wd111 hw)) Via.refl (S0.ext X0) (q := 3) rfl ?_
  refine g_if_eq C d14_3 (q' := 13) (q := 6) (by decide) (by decide) rfl (fun hy => absurd hy hcz) (fun hn => ?_)
  refine g_aloadN C d14_6 (v := (.ref a)) rfl rfl (q := 7) rfl ?_
  refine g_getf C d14_7 (host := "") (Or.inl (wd112 hw)) Via.refl F (q := 10) rfl ?_
  refine g_goto C d14_10 (q := 14) (by decide) (by decide) ?_
  refine g_nreturn C d14_14 (by simp) (z := 0) rfl (Nat.le_refl _) (by decide) (by decide) ⟨rfl, rfl⟩
set_option maxRecDepth 65536 in
set_option maxHeartbeats 40000000 in
theorem c_getB (l : Launch) (Z : State) (a0 : Array Value) (G : Gl Z a0) (cz : Int32) (S0 : Sta Z Z.heap "java/lang/String" "COMPACT_STRINGS" "Z" (.int cz)) (hcz : ¬ cz = 0) (h0 : Heap) (n0 : Nat) (Z0 : n0 ≤ h0.size) (u : Addr) (SI : Sta Z Z.heap "sun/nio/cs/UTF_8" "INSTANCE" "Lsun/nio/cs/UTF_8;" (.ref u)) (X0 : Ext Z.heap h0) (a : Addr) (cs : List Int32) (hn8 : cs.length ≤ 8) (S : SE Z h0 a cs) :
    Ctr l Z (⟨"java/lang/String", "getBytes", "(Ljava/nio/charset/Charset;)[B"⟩ : MethodName) jdk_42_method_64_code 2 (some (.array .byte)) rmC4 #[(.ref a), (.ref u)] h0 n0 (fun v h => ∃ r, v = some (.ref r) ∧ h0.size ≤ r ∧ Keep h0 h [] ∧ Av Z h r .byte (u8 cs).length (fun j => .int ((u8 cs).getD j 0)) ∧ Exa Z h r "[B") := by
  have hw := G.1
  obtain ⟨b, E, F1, F2, B, EB, hp⟩ := S
  refine Ctr.of (n1 := n0) #[.val (.ref a), .val (.ref u)] (plainFor_of_name pn1) (fun m => by first | (simp [entryFrame, mkF, argsToLocals, Value.category, maxLocals]; done) | rfl) ?_
  intro p e s m below meth c C
  refine g_aloadN C d13_0 (v := (.ref u)) rfl rfl (q := 1) rfl ?_
  refine g_ifnonnullY C d13_1 (q := 12) (by decide) (by decide) ?_
  refine g_aloadN C d13_12 (v := (.ref u)) rfl rfl (q := 13) rfl ?_
  refine g_aloadN C d13_13 (v := (.ref a)) rfl rfl (q := 14) rfl ?_
  refine g_callV C (W := 1) (argsL := []) (rest := [(.ref u)]) (a := a) d13_14 (wd106 hw) (wd107 hw) (wd109 hw) (wd108 hw) (by decide) (nf_of C (wd109 hw)) E (Ctr.bk (c_coder l Z a0 G cz S0 hcz a h0 n0 X0 F1) C (wd110 hw) (wd5 hw) (by decide) (by decide)) (by decide) (by decide) rfl (lenOf pd17 rfl) rfl rfl (q := 17) rfl (fun v1 h1 hQ1 => ?_)
  obtain ⟨rfl, rfl⟩ := hQ1
  refine ⟨[(.int (0 : Int32)), (.ref u)], rfl, ?_⟩
  refine g_aloadN C d13_17 (v := (.ref a)) rfl rfl (q := 18) rfl ?_
  refine g_getf C d13_18 (host := "") (Or.inl (wd113 hw)) Via.refl F2 (q := 21) rfl ?_
  refine g_callS C (W := 0) (argsL := [(.ref u), (.int (0 : Int32)), (.ref b)]) (rest := []) d13_21 (wd114 hw) (wd115 hw) (wd5 hw) (wd116 hw) (by decide) (Ctr.bk (c_encd l Z a0 G h0 n0 Z0 u SI X0 b cs _ rfl hn8 B EB) C (wd116 hw) (wd5 hw) (by decide) (by decide)) (by decide) (by decide) rfl (lenOf pd18 rfl) rfl rfl (q := 24) rfl (fun v1 h1 hQ1 => ?_)
  obtain ⟨r, rfl, gr, K1, R1, ER⟩ := hQ1
  refine ⟨[(.ref r)], rfl, ?_⟩
  refine g_areturn C d13_24 rfl rfl (Nat.le_refl _) (by decide) (by decide) ⟨r, rfl, gr, K1, R1, ER⟩
/-- the held keys: their bytes, their files -/
abbrev HD : Type := List (List Int32 × Nat)
def kyx (hd : HD) (i : Nat) : List Int32 := (hd.getD i ([], 0)).1
def flx (hd : HD) (i : Nat) : Nat := (hd.getD i ([], 0)).2
def hx16 (x : Int32) : Int32 := x ^^^ XT.ushr x 16
def hx13 (x : Int32) : Int32 := x ^^^ XT.ushr x 13
def hfin (x : Int32) : Int32 := hx16 (hx13 (hx16 x * (-2048144789)) * (-1028477387))
def hs (ks : List Int32) : Int32 := hfin (ks.foldl (fun a b => 31 * a + b) 0)
def hp (ks : List Int32) : Nat := (hs ks &&& 2047).toBitVec.toNat
theorem hp_lt (ks : List Int32) : hp ks < 2048 := by
  unfold hp
  simp only [Int32.toBitVec_and, BitVec.toNat_and]
  exact Nat.lt_succ_of_le Nat.and_le_right
theorem hp_eq (ks : List Int32) : hs ks &&& 2047 = Int32.ofNat (hp ks) := by
  unfold hp
  apply Int32.toBitVec_inj.mp
  show _ = BitVec.ofNat 32 _
  rw [BitVec.ofNat_toNat]; simp
theorem nx (p : Nat) (hp : p < 2048) : (Int32.ofNat p + 1) &&& 2047 = Int32.ofNat ((p + 1) % 2048) := by
  rw [of_succ]
  apply Int32.toBitVec_inj.mp
  apply BitVec.eq_of_toNat_eq
  show (BitVec.ofNat 32 (p + 1) &&& BitVec.ofNat 32 2047).toNat = (BitVec.ofNat 32 ((p + 1) % 2048)).toNat
  rw [BitVec.toNat_and, BitVec.toNat_ofNat, BitVec.toNat_ofNat, BitVec.toNat_ofNat, Nat.mod_eq_of_lt (show p + 1 < 2 ^ 32 by omega), Nat.mod_eq_of_lt (show 2047 < 2 ^ 32 by decide), Nat.mod_eq_of_lt (show (p + 1) % 2048 < 2 ^ 32 by omega), show (2047 : Nat) = 2 ^ 11 - 1 from rfl, Nat.and_two_pow_sub_one_eq_mod]
/-- the table is right -/
def Inv (T : Nat → Nat) (hd : HD) : Prop :=
  (∀ p, p < 2048 → T p ≤ hd.length) ∧ (∀ p q, p < 2048 → q < 2048 → T p = T q → T p ≠ 0 → p = q) ∧
  (∀ i, i < hd.length → ∃ d, T ((hp (kyx hd i) + d) % 2048) = i + 1 ∧ ∀ e, e < d → T ((hp (kyx hd i) + e) % 2048) ≠ 0) ∧
  (∀ i j, i < hd.length → j < hd.length → kyx hd i = kyx hd j → i = j)
theorem pig : ∀ (n : Nat) (f : Nat → Nat), (∀ i, i ≤ n → 1 ≤ f i ∧ f i ≤ n) → (∀ i j, i ≤ n → j ≤ n → f i = f j → i = j) → False
  | 0, f, h, _ => by have := h 0 (Nat.le_refl _); omega
  | n + 1, f, h, hi => by
    refine pig n (fun i => if f i = n + 1 then f (n + 1) else f i) (fun i hin => ?_) (fun i j hin hjn e => ?_)
    · have h1 := h i (by omega)
      have h2 := h (n + 1) (Nat.le_refl _)
      by_cases c1 : f i = n + 1
      · simp only [if_pos c1]
        have : f (n + 1) ≠ n + 1 := fun q => by have := hi i (n + 1) (by omega) (Nat.le_refl _) (c1.trans q.symm); omega
        omega
      · simp only [if_neg c1]; omega
    · by_cases c1 : f i = n + 1 <;> by_cases c2 : f j = n + 1
      · exact hi i j (by omega) (by omega) (c1.trans c2.symm)
      · simp only [if_pos c1, if_neg c2] at e
        have := hi (n + 1) j (Nat.le_refl _) (by omega) e; omega
      · simp only [if_neg c1, if_pos c2] at e
        have := hi i (n + 1) (by omega) (Nat.le_refl _) e; omega
      · simp only [if_neg c1, if_neg c2] at e
        exact hi i j (by omega) (by omega) e
theorem Inv.zero {T : Nat → Nat} {hd : HD} (I : Inv T hd) (h8 : hd.length ≤ 8) (st : Nat) : ∃ d, d ≤ hd.length ∧ T ((st + d) % 2048) = 0 := by
  apply Classical.byContradiction
  intro hno
  have nz : ∀ d, d ≤ hd.length → T ((st + d) % 2048) ≠ 0 := fun d hd' q => hno ⟨d, hd', q⟩
  refine pig hd.length (fun d => T ((st + d) % 2048)) (fun i hi => ⟨Nat.pos_of_ne_zero (nz i hi), I.1 _ (Nat.mod_lt _ (by decide))⟩) (fun i j hi hj e => ?_)
  have := I.2.1 _ _ (Nat.mod_lt _ (by decide)) (Nat.mod_lt _ (by decide)) e (nz i hi)
  omega
def fnd (T : Nat → Nat) (hd : HD) (ks : List Int32) : Nat → Nat → Int32
  | 0, _ => -1
  | d + 1, p => if T p = 0 then -1 else if kyx hd (T p - 1) = ks then Int32.ofNat (T p - 1) else fnd T hd ks d ((p + 1) % 2048)
def FS (hd : HD) (ks : List Int32) (r : Int32) : Prop := (∃ i, i < hd.length ∧ kyx hd i = ks ∧ r = Int32.ofNat i) ∨ ((∀ i, i < hd.length → kyx hd i ≠ ks) ∧ r = -1)
theorem fnd_no {T : Nat → Nat} {hd : HD} {ks : List Int32} (I : Inv T hd) (hn : ∀ i, i < hd.length → kyx hd i ≠ ks) : ∀ k p, p < 2048 → fnd T hd ks k p = -1
  | 0, _, _ => rfl
  | k + 1, p, hp => by
    simp only [fnd]
    by_cases c1 : T p = 0
    · rw [if_pos c1]
    · have := I.1 p hp
      rw [if_neg c1, if_neg (hn _ (by omega)), fnd_no I hn k _ (Nat.mod_lt _ (by decide))]
theorem fnd_yes {T : Nat → Nat} {hd : HD} {ks : List Int32} (I : Inv T hd) {i di : Nat} (hi : i < hd.length) (hk : kyx hd i = ks) (h1 : T ((hp ks + di) % 2048) = i + 1) (h2 : ∀ e, e < di → T ((hp ks + e) % 2048) ≠ 0) : ∀ m k e, e + m = di → m < k → fnd T hd ks k ((hp ks + e) % 2048) = Int32.ofNat i
  | 0, 0, _, _, hk' => absurd hk' (by omega)
  | 0, k + 1, e, he, _ => by
    obtain rfl : e = di := by omega
    simp only [fnd]
    rw [h1, if_neg (by omega), Nat.add_sub_cancel, if_pos hk]
  | m + 1, 0, _, _, hk' => absurd hk' (by omega)
  | m + 1, k + 1, e, he, hk' => by
    have nz := h2 e (by omega)
    have le := I.1 ((hp ks + e) % 2048) (Nat.mod_lt _ (by decide))
    simp only [fnd]
    rw [if_neg nz]
    by_cases c1 : kyx hd (T ((hp ks + e) % 2048) - 1) = ks
    · rw [if_pos c1, I.2.2.2 _ i (by omega) hi (c1.trans hk.symm)]
    · rw [if_neg c1, show ((hp ks + e) % 2048 + 1) % 2048 = (hp ks + (e + 1)) % 2048 by omega]
      exact fnd_yes I hi hk h1 h2 m k (e + 1) (by omega) (by omega)
theorem fnd_ok {T : Nat → Nat} {hd : HD} (ks : List Int32) (I : Inv T hd) {d : Nat} (hz : T ((hp ks + d) % 2048) = 0) : FS hd ks (fnd T hd ks (d + 1) (hp ks)) := by
  have hl := hp_lt ks
  by_cases c1 : ∃ i, i < hd.length ∧ kyx hd i = ks
  · obtain ⟨i, hi, hk⟩ := c1
    obtain ⟨di, h1, h2⟩ := I.2.2.1 i hi
    rw [hk] at h1 h2
    have hdi : di < d := by
      rcases Nat.lt_trichotomy di d with q | q | q
      · exact q
      · rw [← q, h1] at hz; omega
      · exact absurd hz (h2 d q)
    have := fnd_yes I hi hk h1 h2 di (d + 1) 0 (by omega) (by omega)
    rw [show (hp ks + 0) % 2048 = hp ks by omega] at this
    exact Or.inl ⟨i, hi, hk, this⟩
  · have hn : ∀ i, i < hd.length → kyx hd i ≠ ks := fun i hi q => c1 ⟨i, hi, q⟩
    exact Or.inr ⟨hn, fnd_no I hn _ _ hl⟩
def plc (T : Nat → Nat) : Nat → Nat → Nat
  | 0, p => p
  | d + 1, p => if T p = 0 then p else plc T d ((p + 1) % 2048)
theorem plc_ok {T : Nat → Nat} : ∀ d p, p < 2048 → T ((p + d) % 2048) = 0 → ∃ e, plc T d p = (p + e) % 2048 ∧ T ((p + e) % 2048) = 0 ∧ ∀ e', e' < e → T ((p + e') % 2048) ≠ 0
  | 0, p, hp, hz => ⟨0, by show p = _; omega, hz, fun _ h => absurd h (by omega)⟩
  | d + 1, p, hp, hz => by
    simp only [plc]
    have e0 : (p + 0) % 2048 = p := by omega
    by_cases c1 : T p = 0
    · rw [if_pos c1]
      exact ⟨0, e0.symm, by rw [e0]; exact c1, fun _ h => absurd h (by omega)⟩
    · rw [if_neg c1]
      obtain ⟨e, h1, h2, h3⟩ := plc_ok d ((p + 1) % 2048) (Nat.mod_lt _ (by decide)) (by rw [show ((p + 1) % 2048 + d) % 2048 = (p + (d + 1)) % 2048 by omega]; exact hz)
      refine ⟨e + 1, by rw [h1]; omega, by rw [show (p + (e + 1)) % 2048 = ((p + 1) % 2048 + e) % 2048 by omega]; exact h2, fun e' he' => ?_⟩
      cases e' with
      | zero => rw [e0]; exact c1
      | succ e'' => rw [show (p + (e'' + 1)) % 2048 = ((p + 1) % 2048 + e'') % 2048 by omega]; exact h3 e'' (by omega)
theorem plc_lt {T : Nat → Nat} : ∀ d p, p < 2048 → plc T d p < 2048
  | 0, p, hp => hp
  | d + 1, p, hp => by
    simp only [plc]
    by_cases c1 : T p = 0
    · rw [if_pos c1]; exact hp
    · rw [if_neg c1]; exact plc_lt d _ (Nat.mod_lt _ (by decide))
theorem kyx_app1 {hd : HD} {x : List Int32 × Nat} {i : Nat} (h : i < hd.length) : kyx (hd ++ [x]) i = kyx hd i := by unfold kyx; simp only [List.getD, List.getElem?_append_left h]
theorem kyx_app2 {hd : HD} {x : List Int32 × Nat} : kyx (hd ++ [x]) hd.length = x.1 := by unfold kyx; simp [List.getD]
theorem flx_app1 {hd : HD} {x : List Int32 × Nat} {i : Nat} (h : i < hd.length) : flx (hd ++ [x]) i = flx hd i := by unfold flx; simp only [List.getD, List.getElem?_append_left h]
theorem flx_app2 {hd : HD} {x : List Int32 × Nat} : flx (hd ++ [x]) hd.length = x.2 := by unfold flx; simp [List.getD]
theorem Inv.add {T : Nat → Nat} {hd : HD} {ks : List Int32} {f e : Nat} (I : Inv T hd) (hn : ∀ i, i < hd.length → kyx hd i ≠ ks) (hz : T ((hp ks + e) % 2048) = 0) (hnz : ∀ e', e' < e → T ((hp ks + e') % 2048) ≠ 0) : Inv (fun p => if p = (hp ks + e) % 2048 then hd.length + 1 else T p) (hd ++ [(ks, f)]) := by
  have ll : (hd ++ [(ks, f)]).length = hd.length + 1 := by simp
  have nz : ∀ p, T p ≠ 0 → (if p = (hp ks + e) % 2048 then hd.length + 1 else T p) ≠ 0 := fun p h => by by_cases c : p = (hp ks + e) % 2048 <;> simp [c] <;> omega
  refine ⟨fun p hp' => ?_, fun p q hp' hq' e1 e2 => ?_, fun i hi => ?_, fun i j hi hj ek => ?_⟩
  · rw [ll]
    by_cases c : p = (hp ks + e) % 2048
    · simp only [if_pos c]; omega
    · simp only [if_neg c]; have := I.1 p hp'; omega
  · by_cases c1 : p = (hp ks + e) % 2048 <;> by_cases c2 : q = (hp ks + e) % 2048
    · rw [c1, c2]
    · simp only [if_pos c1, if_neg c2] at e1; have := I.1 q hq'; omega
    · simp only [if_neg c1, if_pos c2] at e1; have := I.1 p hp'; omega
    · simp only [if_neg c1, if_neg c2] at e1 e2; exact I.2.1 p q hp' hq' e1 e2
  · rw [ll] at hi
    by_cases c : i < hd.length
    · obtain ⟨d, h1, h2⟩ := I.2.2.1 i c
      rw [kyx_app1 c]
      refine ⟨d, ?_, fun e' he' => nz _ (h2 e' he')⟩
      have : ¬ (hp (kyx hd i) + d) % 2048 = (hp ks + e) % 2048 := fun q => by rw [q, hz] at h1; omega
      simp only [if_neg this]; exact h1
    · obtain rfl : i = hd.length := by omega
      rw [kyx_app2]
      exact ⟨e, by simp, fun e' he' => nz _ (hnz e' he')⟩
  · rw [ll] at hi hj
    by_cases c1 : i < hd.length <;> by_cases c2 : j < hd.length
    · rw [kyx_app1 c1, kyx_app1 c2] at ek; exact I.2.2.2 i j c1 c2 ek
    · obtain rfl : j = hd.length := by omega
      rw [kyx_app1 c1, kyx_app2] at ek; exact absurd ek (hn i c1)
    · obtain rfl : i = hd.length := by omega
      rw [kyx_app2, kyx_app1 c2] at ek; exact absurd ek.symm (hn j c2)
    · omega
theorem Inv.nil : Inv (fun _ => 0) [] := ⟨fun _ _ => Nat.le_refl _, fun _ _ _ _ _ h => absurd rfl h, fun _ h => absurd h (by simp), fun _ _ h => absurd h (by simp)⟩

abbrev rmE0 : Room := { frames := 0, cells := 0, slots := 0, locals := 0 }
abbrev rmE1 : Room := { frames := 1, cells := 0, slots := 0, locals := 16 }
abbrev rmE2 : Room := { frames := 2, cells := 0, slots := 0, locals := 40 }
abbrev rmE3 : Room := { frames := 3, cells := 0, slots := 0, locals := 64 }
abbrev rmG1 : Room := { frames := 1, cells := 1, slots := 10, locals := 24 }
abbrev rmG0 : Room := { frames := 2, cells := 1, slots := 10, locals := 48 }
abbrev rmA3 : Room := { frames := 3, cells := 1, slots := 10, locals := 72 }
abbrev rmA1 : Room := { frames := 4, cells := 1, slots := 10, locals := 96 }
def ALF (Z : State) (h : Heap) (a : Addr) (v0 v1 v2 : Value) : Prop := Exa Z h a "java/util/ArrayList" ∧ Fld Z h a "java/util/ArrayList" "elementData" "[Ljava/lang/Object;" v0 ∧ Fld Z h a "java/util/ArrayList" "size" "I" v1 ∧ Fld Z h a "java/util/AbstractList" "modCount" "I" v2
theorem ALF.ext {Z : State} {h h' : Heap} {a : Addr} {v0 v1 v2 : Value} (F : ALF Z h a v0 v1 v2) (E : Ext h h') : ALF Z h' a v0 v1 v2 := ⟨F.1.ext E, F.2.1.ext E, F.2.2.1.ext E, F.2.2.2.ext E⟩
theorem ALF.other {Z : State} {h h' : Heap} {a : Addr} {v0 v1 v2 : Value} {b : Addr} {sl : Nat} {v : Value} (F : ALF Z h a v0 v1 v2) (W : Wr h h' b sl v) (ne : a ≠ b) : ALF Z h' a v0 v1 v2 := ⟨F.1.wr W, F.2.1.other W (Or.inl ne), F.2.2.1.other W (Or.inl ne), F.2.2.2.other W (Or.inl ne)⟩
theorem ALF.keep {Z : State} {h h' : Heap} {a : Addr} {v0 v1 v2 : Value} {ws : List Addr} (F : ALF Z h a v0 v1 v2) (K : Keep h h' ws) (ne : a ∉ ws) : ALF Z h' a v0 v1 v2 := ⟨F.1.keep K, F.2.1.keep K ne, F.2.2.1.keep K ne, F.2.2.2.keep K ne⟩
theorem ALF.w0 {Z : State} {h h' : Heap} {a : Addr} {v0 v1 v2 : Value} {a0 : Array Value} {v : Value} (hw : ∀ d ∈ tables_1, d.before a0 Z = true) (F : ALF Z h a v0 v1 v2) (W : Wr h h' a (Jvm.RoadKit.slotOf Z "java/util/ArrayList" "elementData" "[Ljava/lang/Object;") v) : ALF Z h' a v v1 v2 := ⟨F.1.wr W, F.2.1.same W, F.2.2.1.other W (Or.inr (slot_ne (Or.inl (wd51 hw)) (Or.inl (wd38 hw)) (by decide) (t := .int) (t' := (.array (.object "java/lang/Object"))) (by decide) (by decide))), F.2.2.2.other W (Or.inr (slot_ne (Or.inl (wd35 hw)) (Or.inl (wd38 hw)) (by decide) (t := .int) (t' := (.array (.object "java/lang/Object"))) (by decide) (by decide)))⟩
theorem ALF.w1 {Z : State} {h h' : Heap} {a : Addr} {v0 v1 v2 : Value} {a0 : Array Value} {v : Value} (hw : ∀ d ∈ tables_1, d.before a0 Z = true) (F : ALF Z h a v0 v1 v2) (W : Wr h h' a (Jvm.RoadKit.slotOf Z "java/util/ArrayList" "size" "I") v) : ALF Z h' a v0 v v2 := ⟨F.1.wr W, F.2.1.other W (Or.inr (slot_ne (Or.inl (wd38 hw)) (Or.inl (wd51 hw)) (by decide) (t := (.array (.object "java/lang/Object"))) (t' := .int) (by decide) (by decide))), F.2.2.1.same W, F.2.2.2.other W (Or.inr (slot_ne (Or.inl (wd35 hw)) (Or.inl (wd51 hw)) (by decide) (t := .int) (t' := .int) (by decide) (by decide)))⟩
theorem ALF.w2 {Z : State} {h h' : Heap} {a : Addr} {v0 v1 v2 : Value} {a0 : Array Value} {v : Value} (hw : ∀ d ∈ tables_1, d.before a0 Z = true) (F : ALF Z h a v0 v1 v2) (W : Wr h h' a (Jvm.RoadKit.slotOf Z "java/util/AbstractList" "modCount" "I") v) : ALF Z h' a v0 v1 v := ⟨F.1.wr W, F.2.1.other W (Or.inr (slot_ne (Or.inl (wd38 hw)) (Or.inl (wd35 hw)) (by decide) (t := (.array (.object "java/lang/Object"))) (t' := .int) (by decide) (by decide))), F.2.2.1.other W (Or.inr (slot_ne (Or.inl (wd51 hw)) (Or.inl (wd35 hw)) (by decide) (t := .int) (t' := .int) (by decide) (by decide))), F.2.2.2.same W⟩
set_option maxRecDepth 65536 in
set_option maxHeartbeats 40000000 in
theorem c_acinit (l : Launch) (Z : State) (a0 : Array Value) (G : Gl Z a0) (a : Addr) (h0 : Heap) (n0 : Nat) :
    Ctr l Z (⟨"java/util/AbstractCollection", "<init>", "()V"⟩ : MethodName) jdk_22_method_1_code 1 none rmE1 #[(.ref a)] h0 n0 (fun v h => h0 = h ∧ v = none) := by
  have hw := G.1
  refine Ctr.of (n1 := n0) #[.val (.ref a)] (plainFor_of_name pn6) (fun m => by first | (simp [entryFrame, mkF, argsToLocals, Value.category, maxLocals]; done) | rfl) ?_
  intro p e s m below meth c C
  refine g_aloadN C d4_0 (v := (.ref a)) rfl rfl (q := 1) rfl ?_
  refine g_initO C d4_1 (wd31 hw) (wd32 hw) (wd33 hw) rfl (by decide) (W := 0) rfl (by decide) (q := 4) rfl ?_
  refine g_return C d4_4 (Nat.le_refl _) (by decide) (by decide) ⟨rfl, rfl⟩
set_option maxRecDepth 65536 in
set_option maxHeartbeats 40000000 in
theorem c_ablinit (l : Launch) (Z : State) (a0 : Array Value) (G : Gl Z a0) (a : Addr) (v0 v1 v2 : Value) (h0 : Heap) (n0 : Nat) (ga : n0 ≤ a) (F : ALF Z h0 a v0 v1 v2) :
    Ctr l Z (⟨"java/util/AbstractList", "<init>", "()V"⟩ : MethodName) jdk_39_method_1_code 1 none rmE2 #[(.ref a)] h0 n0 (fun v h => v = none ∧ Keep h0 h [a] ∧ ALF Z h a v0 v1 (.int 0)) := by
  have hw := G.1
  refine Ctr.of (n1 := n0) #[.val (.ref a)] (plainFor_of_name pn7) (fun m => by first | (simp [entryFrame, mkF, argsToLocals, Value.category, maxLocals]; done) | rfl) ?_
  intro p e s m below meth c C
  refine g_aloadN C d3_0 (v := (.ref a)) rfl rfl (q := 1) rfl ?_
  refine g_callI C (W := 0) (argsL := []) (rest := []) (a := a) d3_1 rfl (wd25 hw) (wd26 hw) (wd30 hw) (by decide) (Ctr.bk (c_acinit l Z a0 G a h0 n0) C (wd30 hw) (wd29 hw) (by decide) (by decide)) (by decide) (by decide) rfl (lenOf pd19 rfl) rfl rfl (q := 4) rfl (fun v1 h1 hQ1 => ?_)
  obtain ⟨rfl, rfl⟩ := hQ1
  refine ⟨[], rfl, ?_⟩
  refine g_aloadN C d3_4 (v := (.ref a)) rfl rfl (q := 5) rfl ?_
  refine g_iconst C d3_5 (z := (0 : Int32)) rfl (q := 6) rfl ?_
  refine g_putf C d3_6 (host := "") (Or.inl (wd34 hw)) Via.refl F.2.2.2 F.1 (Or.inl (wd35 hw)) (wd14 hw) (ty := .int) (by decide) rfl rfl ga (q := 9) rfl (fun h2 W2 => ?_)
  refine g_return C d3_9 (Nat.le_refl _) (by decide) (by decide) ⟨rfl, Keep.of_wr W2, F.w2 hw W2⟩
set_option maxRecDepth 65536 in
set_option maxHeartbeats 40000000 in
theorem c_alinit (l : Launch) (Z : State) (a0 : Array Value) (G : Gl Z a0) (a : Addr) (v0 v1 v2 : Value) (h0 : Heap) (n0 : Nat) (ga : n0 ≤ a) (F : ALF Z h0 a v0 v1 v2) (De : Addr) (SD : Sta Z Z.heap "java/util/ArrayList" "DEFAULTCAPACITY_EMPTY_ELEMENTDATA" "[Ljava/lang/Object;" (.ref De)) (X0 : Ext Z.heap h0) (gz : Z.heap.size ≤ a) :
    Ctr l Z (⟨"java/util/ArrayList", "<init>", "()V"⟩ : MethodName) jdk_38_method_2_code 1 none rmE3 #[(.ref a)] h0 n0 (fun v h => v = none ∧ Keep h0 h [a] ∧ ALF Z h a (.ref De) v1 (.int 0)) := by
  have hw := G.1
  refine Ctr.of (n1 := n0) #[.val (.ref a)] (plainFor_of_name pn8) (fun m => by first | (simp [entryFrame, mkF, argsToLocals, Value.category, maxLocals]; done) | rfl) ?_
  intro p e s m below meth c C
  refine g_aloadN C d2_0 (v := (.ref a)) rfl rfl (q := 1) rfl ?_
  refine g_callI C (W := 0) (argsL := []) (rest := []) (a := a) d2_1 rfl (wd19 hw) (wd20 hw) (wd24 hw) (by decide) (Ctr.bk (c_ablinit l Z a0 G a v0 v1 v2 h0 n0 ga F) C (wd24 hw) (wd23 hw) (by decide) (by decide)) (by decide) (by decide) rfl (lenOf pd19 rfl) rfl rfl (q := 4) rfl (fun v1 h1 hQ1 => ?_)
  obtain ⟨rfl, K1, F1⟩ := hQ1
  refine ⟨[], rfl, ?_⟩
  refine g_aloadN C d2_4 (v := (.ref a)) rfl rfl (q := 5) rfl ?_
  refine g_gets C d2_5 (host := "") (Or.inl (wd36 hw)) Via.refl (SD.ext (Ext.keep X0 K1 (fun x hx => by cases List.mem_singleton.mp hx; exact gz))) (q := 8) rfl ?_
  refine g_putf C d2_8 (host := "") (Or.inl (wd37 hw)) Via.refl F1.2.1 F1.1 (Or.inl (wd38 hw)) (wd14 hw) (ty := (.array (.object "java/lang/Object"))) (by decide) rfl rfl ga (q := 11) rfl (fun h2 W2 => ?_)
  refine g_return C d2_11 (Nat.le_refl _) (by decide) (by decide) ⟨rfl, K1.wr W2 (Or.inl (by simp)), F1.w0 hw W2⟩
set_option maxRecDepth 65536 in
set_option maxHeartbeats 40000000 in
theorem c_max (l : Launch) (Z : State) (a0 : Array Value) (G : Gl Z a0) (h0 : Heap) (n0 : Nat) :
    Ctr l Z (⟨"java/lang/Math", "max", "(II)I"⟩ : MethodName) jdk_29_method_65_code 2 (some .int) rmE0 #[(.int (10 : Int32)), (.int (1 : Int32))] h0 n0 (fun v h => h0 = h ∧ v = some (.int 10)) := by
  have hw := G.1
  refine Ctr.of (n1 := n0) #[.val (.int (10 : Int32)), .val (.int (1 : Int32))] (by decide +kernel) (fun m => by first | (simp [entryFrame, mkF, argsToLocals, Value.category, maxLocals]; done) | rfl) ?_
  intro p e s m below meth c C
  refine g_iloadN C d10_0 (v := (10 : Int32)) rfl (q := 1) rfl ?_
  refine g_iloadN C d10_1 (v := (1 : Int32)) rfl (q := 2) rfl ?_
  refine g_icmp_lt C d10_2 (q' := 9) (q := 5) (by decide) (by decide) rfl (fun hy => absurd hy (by decide)) (fun hn => ?_)
  refine g_iloadN C d10_5 (v := (10 : Int32)) rfl (q := 6) rfl ?_
  refine g_goto C d10_6 (q := 10) (by decide) (by decide) ?_
  refine g_ireturn C d10_10 (Nat.le_refl _) (by decide) (by decide) ⟨rfl, rfl⟩
set_option maxRecDepth 65536 in
set_option maxHeartbeats 40000000 in
theorem c_grow1 (l : Launch) (Z : State) (a0 : Array Value) (G : Gl Z a0) (a : Addr) (mc : Value) (h0 : Heap) (n0 : Nat) (Z0 : n0 ≤ h0.size) (ga : n0 ≤ a) (De : Addr) (SD : Sta Z Z.heap "java/util/ArrayList" "DEFAULTCAPACITY_EMPTY_ELEMENTDATA" "[Ljava/lang/Object;" (.ref De)) (fD : Nat → Value) (AD : Av Z Z.heap De (.object "java/lang/Object") 0 fD) (X0 : Ext Z.heap h0) (F : ALF Z h0 a (.ref De) (.int 0) mc) :
    Ctr l Z (⟨"java/util/ArrayList", "grow", "(I)[Ljava/lang/Object;"⟩ : MethodName) jdk_38_method_6_code 4 (some (.array (.object "java/lang/Object"))) rmG1 #[(.ref a), (.int (1 : Int32))] h0 n0 (fun v h => ∃ r, v = some (.ref r) ∧ h0.size ≤ r ∧ Keep h0 h [a] ∧ ALF Z h a (.ref r) (.int 0) mc ∧ Ao Z h r "java/lang/Object" 10 (fun _ => .null)) := by
  have hw := G.1
  refine Ctr.of (n1 := n0) #[.val (.ref a), .val (.int (1 : Int32)), .unset, .unset] (plainFor_of_name pn8) (fun m => by first | (simp [entryFrame, mkF, argsToLocals, Value.category, maxLocals]; done) | rfl) ?_
  intro p e s m below meth c C
  refine g_aloadN C d9_0 (v := (.ref a)) rfl rfl (q := 1) rfl ?_
  refine g_getf C d9_1 (host := "") (Or.inl (wd37 hw)) Via.refl F.2.1 (q := 4) rfl ?_
  refine g_alen C d9_4 (AD.ext X0) (z := (0 : Int32)) rfl (q := 5) rfl ?_
  refine g_istoreN C d9_5 (L' := #[.val (.ref a), .val (.int (1 : Int32)), .val (.int (0 : Int32)), .unset]) rfl (q := 6) rfl ?_
  refine g_iloadN C d9_6 (v := (0 : Int32)) rfl (q := 7) rfl ?_
  refine g_if_gt C d9_7 (q' := 20) (q := 10) (by decide) (by decide) rfl (fun hy => absurd hy (by decide)) (fun hn => ?_)
  refine g_aloadN C d9_10 (v := (.ref a)) rfl rfl (q := 11) rfl ?_
  refine g_getf C d9_11 (host := "") (Or.inl (wd37 hw)) Via.refl F.2.1 (q := 14) rfl ?_
  refine g_gets C d9_14 (host := "") (Or.inl (wd36 hw)) Via.refl (SD.ext X0) (q := 17) rfl ?_
  refine g_acmp_eq C d9_17 rfl rfl (q' := 45) (q := 20) (by decide) (by decide) rfl (fun hy => ?_) (fun hn => absurd rfl hn)
  refine g_aloadN C d9_45 (v := (.ref a)) rfl rfl (q := 46) rfl ?_
  refine g_bipush C d9_46 (z := (10 : Int32)) rfl (q := 48) rfl ?_
  refine g_iloadN C d9_48 (v := (1 : Int32)) rfl (q := 49) rfl ?_
  refine g_callS C (W := 1) (argsL := [(.int (10 : Int32)), (.int (1 : Int32))]) (rest := [(.ref a)]) d9_49 (wd67 hw) (wd68 hw) (wd69 hw) (wd70 hw) (by decide) (Ctr.bk (c_max l Z a0 G h0 n0) C (wd70 hw) (wd69 hw) (by decide) (by decide)) (by decide) (by decide) rfl (lenOf pd12 rfl) rfl rfl (q := 52) rfl (fun v1 h1 hQ1 => ?_)
  obtain ⟨rfl, rfl⟩ := hQ1
  refine ⟨[(.int (10 : Int32)), (.ref a)], rfl, ?_⟩
  refine g_anewarray C d9_52 (wd71 hw) (wd72 hw) (by decide) (cap := 10) (by decide) (by decide) (by decide) (by decide) (q := 55) rfl (fun r h1 k1 q1 E1 A1 O1 => ?_)
  have B1 := Ao.new A1 O1 (by decide)
  have F1 := F.ext E1
  have ne : r ≠ a := fun q => by have := F.1.lt; rw [← q, q1] at this; exact absurd this (Nat.lt_irrefl _)
  refine g_dup_x1 C d9_55 rfl rfl (q := 56) rfl ?_
  refine g_putf C d9_56 (host := "") (Or.inl (wd37 hw)) Via.refl F1.2.1 F1.1 (Or.inl (wd38 hw)) (wd14 hw) (ty := (.array (.object "java/lang/Object"))) (by decide) rfl rfl ga (q := 59) rfl (fun h2 W2 => ?_)
  refine g_areturn C d9_59 rfl rfl (Nat.le_refl _) (by decide) (by decide) ⟨r, rfl, by rw [q1]; exact Nat.le_refl _, (Ext.kp E1 [a]).wr W2 (Or.inl (by simp)), F1.w0 hw W2, B1.other W2 ne⟩
set_option maxRecDepth 65536 in
set_option maxHeartbeats 40000000 in
theorem c_grow0 (l : Launch) (Z : State) (a0 : Array Value) (G : Gl Z a0) (a : Addr) (mc : Value) (h0 : Heap) (n0 : Nat) (Z0 : n0 ≤ h0.size) (ga : n0 ≤ a) (De : Addr) (SD : Sta Z Z.heap "java/util/ArrayList" "DEFAULTCAPACITY_EMPTY_ELEMENTDATA" "[Ljava/lang/Object;" (.ref De)) (fD : Nat → Value) (AD : Av Z Z.heap De (.object "java/lang/Object") 0 fD) (X0 : Ext Z.heap h0) (F : ALF Z h0 a (.ref De) (.int 0) mc) :
    Ctr l Z (⟨"java/util/ArrayList", "grow", "()[Ljava/lang/Object;"⟩ : MethodName) jdk_38_method_7_code 1 (some (.array (.object "java/lang/Object"))) rmG0 #[(.ref a)] h0 n0 (fun v h => ∃ r, v = some (.ref r) ∧ h0.size ≤ r ∧ Keep h0 h [a] ∧ ALF Z h a (.ref r) (.int 0) mc ∧ Ao Z h r "java/lang/Object" 10 (fun _ => .null)) := by
  have hw := G.1
  refine Ctr.of (n1 := n0) #[.val (.ref a)] (plainFor_of_name pn8) (fun m => by first | (simp [entryFrame, mkF, argsToLocals, Value.category, maxLocals]; done) | rfl) ?_
  intro p e s m below meth c C
  refine g_aloadN C d8_0 (v := (.ref a)) rfl rfl (q := 1) rfl ?_
  refine g_aloadN C d8_1 (v := (.ref a)) rfl rfl (q := 2) rfl ?_
  refine g_getf C d8_2 (host := "") (Or.inl (wd50 hw)) Via.refl F.2.2.1 (q := 5) rfl ?_
  refine g_iconst C d8_5 (z := (1 : Int32)) rfl (q := 6) rfl ?_
  refine g_iadd C d8_6 (q := 7) rfl ?_
  rw [show (0 : Int32) + 1 = 1 from rfl]
  refine g_callP C (W := 0) (argsL := [(.int (1 : Int32))]) (rest := []) (a := a) d8_7 (wd62 hw) (wd63 hw) (wd14 hw) (wd66 hw) (by decide) (priv_of C (wd64 hw)) F.1 (Ctr.bk (c_grow1 l Z a0 G a mc h0 n0 Z0 ga De SD fD AD X0 F) C (wd66 hw) (wd15 hw) (by decide) (by decide)) (by decide) (by decide) rfl (lenOf pd20 rfl) rfl rfl (q := 10) rfl (fun v1 h1 hQ1 => ?_)
  obtain ⟨r, rfl, gr, K1, F1, B1⟩ := hQ1
  refine ⟨[(.ref r)], rfl, ?_⟩
  refine g_areturn C d8_10 rfl rfl (Nat.le_refl _) (by decide) (by decide) ⟨r, rfl, gr, K1, F1, B1⟩
set_option maxRecDepth 65536 in
set_option maxHeartbeats 40000000 in
theorem c_add3a (l : Launch) (Z : State) (a0 : Array Value) (G : Gl Z a0) (a : Addr) (mc : Value) (h0 : Heap) (n0 : Nat) (Z0 : n0 ≤ h0.size) (ga : n0 ≤ a) (De : Addr) (SD : Sta Z Z.heap "java/util/ArrayList" "DEFAULTCAPACITY_EMPTY_ELEMENTDATA" "[Ljava/lang/Object;" (.ref De)) (fD : Nat → Value) (AD : Av Z Z.heap De (.object "java/lang/Object") 0 fD) (X0 : Ext Z.heap h0) (F : ALF Z h0 a (.ref De) (.int 0) mc) (x : Addr) (Cx0 : String) (Ex : Exa Z h0 x Cx0) (wOb : (Cond.castable Cx0 "java/lang/Object").before a0 Z = true) :
    Ctr l Z (⟨"java/util/ArrayList", "add", "(Ljava/lang/Object;[Ljava/lang/Object;I)V"⟩ : MethodName) jdk_38_method_24_code 4 none rmA3 #[(.ref a), (.ref x), (.ref De), (.int (0 : Int32))] h0 n0 (fun v h => v = none ∧ ∃ r, h0.size ≤ r ∧ Keep h0 h [a] ∧ ALF Z h a (.ref r) (.int 1) mc ∧ Ao Z h r "java/lang/Object" 10 (fun j => if j = 0 then .ref x else .null)) := by
  have hw := G.1
  refine Ctr.of (n1 := n0) #[.val (.ref a), .val (.ref x), .val (.ref De), .val (.int (0 : Int32))] (plainFor_of_name pn8) (fun m => by first | (simp [entryFrame, mkF, argsToLocals, Value.category, maxLocals]; done) | rfl) ?_
  intro p e s m below meth c C
  refine g_iloadN C d7_0 (v := (0 : Int32)) rfl (q := 1) rfl ?_
  refine g_aloadN C d7_1 (v := (.ref De)) rfl rfl (q := 2) rfl ?_
  refine g_alen C d7_2 (AD.ext X0) (z := (0 : Int32)) rfl (q := 3) rfl ?_
  refine g_icmp_ne C d7_3 (q' := 11) (q := 6) (by decide) (by decide) rfl (fun hy => absurd rfl hy) (fun hn => ?_)
  refine g_aloadN C d7_6 (v := (.ref a)) rfl rfl (q := 7) rfl ?_
  refine g_callP C (W := 0) (argsL := []) (rest := []) (a := a) d7_7 (wd57 hw) (wd58 hw) (wd14 hw) (wd61 hw) (by decide) (priv_of C (wd59 hw)) F.1 (Ctr.bk (c_grow0 l Z a0 G a mc h0 n0 Z0 ga De SD fD AD X0 F) C (wd61 hw) (wd15 hw) (by decide) (by decide)) (by decide) (by decide) rfl (lenOf pd21 rfl) rfl rfl (q := 10) rfl (fun v1 h1 hQ1 => ?_)
  obtain ⟨r, rfl, gr, K1, F1, B1⟩ := hQ1
  refine ⟨[(.ref r)], rfl, ?_⟩
  refine g_astoreN C d7_10 rfl (L' := #[.val (.ref a), .val (.ref x), .val (.ref r), .val (.int (0 : Int32))]) rfl (q := 11) rfl ?_
  refine g_aloadN C d7_11 (v := (.ref r)) rfl rfl (q := 12) rfl ?_
  refine g_iloadN C d7_12 (v := (0 : Int32)) rfl (q := 13) rfl ?_
  refine g_aloadN C d7_13 (v := (.ref x)) rfl rfl (q := 14) rfl ?_
  refine g_aastore C d7_14 (i := 0) B1.av (by decide) rfl rfl (B1.sto (Ins.of_exa (Ex.keep K1) wOb)) (Nat.le_trans Z0 gr) (q := 15) rfl (fun h2 W2 B2 => ?_)
  have B2 := B1.set W2 (by decide)
  have ne : a ≠ r := fun q => by have := F.1.lt; rw [q] at this; exact absurd gr (Nat.not_le.mpr this)
  have F2 := F1.other W2 ne
  refine g_aloadN C d7_15 (v := (.ref a)) rfl rfl (q := 16) rfl ?_
  refine g_iloadN C d7_16 (v := (0 : Int32)) rfl (q := 17) rfl ?_
  refine g_iconst C d7_17 (z := (1 : Int32)) rfl (q := 18) rfl ?_
  refine g_iadd C d7_18 (q := 19) rfl ?_
  rw [show (0 : Int32) + 1 = 1 from rfl]
  refine g_putf C d7_19 (host := "") (Or.inl (wd50 hw)) Via.refl F2.2.2.1 F2.1 (Or.inl (wd51 hw)) (wd14 hw) (ty := .int) (by decide) rfl rfl ga (q := 22) rfl (fun h3 W3 => ?_)
  refine g_return C d7_22 (Nat.le_refl _) (by decide) (by decide) ⟨rfl, r, gr, (K1.wr W2 (Or.inr gr)).wr W3 (Or.inl (by simp)), F2.w1 hw W3, B2.other W3 (Ne.symm ne)⟩
set_option maxRecDepth 65536 in
set_option maxHeartbeats 40000000 in
theorem c_add3b (l : Launch) (Z : State) (a0 : Array Value) (G : Gl Z a0) (a ed : Addr) (mc : Value) (n : Nat) (g : Nat → Value) (h0 : Heap) (n0 : Nat) (Z0 : n0 ≤ h0.size) (ga : n0 ≤ a) (ge : n0 ≤ ed) (F : ALF Z h0 a (.ref ed) (.int (Int32.ofNat n)) mc) (B : Ao Z h0 ed "java/lang/Object" 10 g) (hn : n < 10) (ne : a ≠ ed) (x : Addr) (Cx0 : String) (Ex : Exa Z h0 x Cx0) (wOb : (Cond.castable Cx0 "java/lang/Object").before a0 Z = true) :
    Ctr l Z (⟨"java/util/ArrayList", "add", "(Ljava/lang/Object;[Ljava/lang/Object;I)V"⟩ : MethodName) jdk_38_method_24_code 4 none rmA3 #[(.ref a), (.ref x), (.ref ed), (.int (Int32.ofNat n))] h0 n0 (fun v h => v = none ∧ Keep h0 h [a, ed] ∧ ALF Z h a (.ref ed) (.int (Int32.ofNat (n + 1))) mc ∧ Ao Z h ed "java/lang/Object" 10 (fun j => if j = n then .ref x else g j)) := by
  have hw := G.1
  refine Ctr.of (n1 := n0) #[.val (.ref a), .val (.ref x), .val (.ref ed), .val (.int (Int32.ofNat n))] (plainFor_of_name pn8) (fun m => by first | (simp [entryFrame, mkF, argsToLocals, Value.category, maxLocals]; done) | rfl) ?_
  intro p e s m below meth c C
  refine g_iloadN C d7_0 (v := (Int32.ofNat n)) rfl (q := 1) rfl ?_
  refine g_aloadN C d7_1 (v := (.ref ed)) rfl rfl (q := 2) rfl ?_
  refine g_alen C d7_2 B.av (z := (10 : Int32)) rfl (q := 3) rfl ?_
  refine g_icmp_ne C d7_3 (q' := 11) (q := 6) (by decide) (by decide) rfl (fun hy => ?_) (fun hn_ => absurd (congrArg Int32.toInt hn_) (by rw [Int32.toInt_ofNat_of_lt (by omega)]; show ¬ ((n : Int) = 10); omega))
  refine g_aloadN C d7_11 (v := (.ref ed)) rfl rfl (q := 12) rfl ?_
  refine g_iloadN C d7_12 (v := (Int32.ofNat n)) rfl (q := 13) rfl ?_
  refine g_aloadN C d7_13 (v := (.ref x)) rfl rfl (q := 14) rfl ?_
  refine g_aastore C d7_14 (i := n) B.av hn rfl rfl (B.sto (Ins.of_exa Ex wOb)) ge (q := 15) rfl (fun h2 W2 B2 => ?_)
  have B2 := B.set W2 hn
  have F2 := F.other W2 ne
  refine g_aloadN C d7_15 (v := (.ref a)) rfl rfl (q := 16) rfl ?_
  refine g_iloadN C d7_16 (v := (Int32.ofNat n)) rfl (q := 17) rfl ?_
  refine g_iconst C d7_17 (z := (1 : Int32)) rfl (q := 18) rfl ?_
  refine g_iadd C d7_18 (q := 19) rfl ?_
  rw [show Int32.ofNat n + 1 = Int32.ofNat (n + 1) from by rw [Int32.ofNat_add]; rfl]
  refine g_putf C d7_19 (host := "") (Or.inl (wd50 hw)) Via.refl F2.2.2.1 F2.1 (Or.inl (wd51 hw)) (wd14 hw) (ty := .int) (by decide) rfl rfl ga (q := 22) rfl (fun h3 W3 => ?_)
  refine g_return C d7_22 (Nat.le_refl _) (by decide) (by decide) ⟨rfl, ((Keep.refl h0 [a, ed]).wr W2 (Or.inl (by simp))).wr W3 (Or.inl (by simp)), F2.w1 hw W3, B2.other W3 (Ne.symm ne)⟩
set_option maxRecDepth 65536 in
set_option maxHeartbeats 40000000 in
theorem c_adda (l : Launch) (Z : State) (a0 : Array Value) (G : Gl Z a0) (a : Addr) (m0 : Int32) (h0 : Heap) (n0 : Nat) (Z0 : n0 ≤ h0.size) (ga : n0 ≤ a) (De : Addr) (SD : Sta Z Z.heap "java/util/ArrayList" "DEFAULTCAPACITY_EMPTY_ELEMENTDATA" "[Ljava/lang/Object;" (.ref De)) (fD : Nat → Value) (AD : Av Z Z.heap De (.object "java/lang/Object") 0 fD) (X0 : Ext Z.heap h0) (F : ALF Z h0 a (.ref De) (.int 0) (.int m0)) (x : Addr) (Cx0 : String) (Ex : Exa Z h0 x Cx0) (wOb : (Cond.castable Cx0 "java/lang/Object").before a0 Z = true) (gz : Z.heap.size ≤ a) :
    Ctr l Z (⟨"java/util/ArrayList", "add", "(Ljava/lang/Object;)Z"⟩ : MethodName) jdk_38_method_25_code 2 (some .boolean) rmA1 #[(.ref a), (.ref x)] h0 n0 (fun v h => v = some (.int 1) ∧ ∃ r, h0.size ≤ r ∧ Keep h0 h [a] ∧ ALF Z h a (.ref r) (.int 1) (.int (m0 + 1)) ∧ Ao Z h r "java/lang/Object" 10 (fun j => if j = 0 then .ref x else .null)) := by
  have hw := G.1
  refine Ctr.of (n1 := n0) #[.val (.ref a), .val (.ref x)] (plainFor_of_name pn8) (fun m => by first | (simp [entryFrame, mkF, argsToLocals, Value.category, maxLocals]; done) | rfl) ?_
  intro p e s m below meth c C
  refine g_aloadN C d6_0 (v := (.ref a)) rfl rfl (q := 1) rfl ?_
  refine g_dup C d6_1 rfl (q := 2) rfl ?_
  refine g_getf C d6_2 (host := "") (Or.inl (wd48 hw)) (Via.of (wd49 hw)) F.2.2.2 (q := 5) rfl ?_
  refine g_iconst C d6_5 (z := (1 : Int32)) rfl (q := 6) rfl ?_
  refine g_iadd C d6_6 (q := 7) rfl ?_
  refine g_putf C d6_7 (host := "") (Or.inl (wd48 hw)) (Via.of (wd49 hw)) F.2.2.2 F.1 (Or.inl (wd35 hw)) (wd14 hw) (ty := .int) (by decide) rfl rfl ga (q := 10) rfl (fun h1 W1 => ?_)
  have F1 := F.w2 hw W1
  refine g_aloadN C d6_10 (v := (.ref a)) rfl rfl (q := 11) rfl ?_
  refine g_aloadN C d6_11 (v := (.ref x)) rfl rfl (q := 12) rfl ?_
  refine g_aloadN C d6_12 (v := (.ref a)) rfl rfl (q := 13) rfl ?_
  refine g_getf C d6_13 (host := "") (Or.inl (wd37 hw)) Via.refl F1.2.1 (q := 16) rfl ?_
  refine g_aloadN C d6_16 (v := (.ref a)) rfl rfl (q := 17) rfl ?_
  refine g_getf C d6_17 (host := "") (Or.inl (wd50 hw)) Via.refl F1.2.2.1 (q := 20) rfl ?_
  refine g_callP C (W := 0) (argsL := [(.ref x), (.ref De), (.int (0 : Int32))]) (rest := []) (a := a) d6_20 (wd52 hw) (wd53 hw) (wd14 hw) (wd56 hw) (by decide) (priv_of C (wd54 hw)) F1.1 (Ctr.bk (c_add3a l Z a0 G a (.int (m0 + 1)) h1 n0 (by rw [W1.size]; exact Z0) ga De SD fD AD (Ext.wr X0 W1 gz) F1 x Cx0 (Ex.wr W1) wOb) C (wd56 hw) (wd15 hw) (by decide) (by decide)) (by decide) (by decide) rfl (lenOf pd22 rfl) rfl rfl (q := 23) rfl (fun v2 h2 hQ2 => ?_)
  obtain ⟨rfl, r, gr, K2, F2, B2⟩ := hQ2
  refine ⟨[], rfl, ?_⟩
  refine g_iconst C d6_23 (z := (1 : Int32)) rfl (q := 24) rfl ?_
  refine g_nreturn C d6_24 (by simp) rfl (Nat.le_refl _) (by decide) (by decide) ⟨rfl, r, by rw [← W1.size]; exact gr, (Keep.of_wr W1).trans K2 (fun x hx => Or.inl hx), F2, B2⟩
set_option maxRecDepth 65536 in
set_option maxHeartbeats 40000000 in
theorem c_addb (l : Launch) (Z : State) (a0 : Array Value) (G : Gl Z a0) (a ed : Addr) (m0 : Int32) (n : Nat) (g : Nat → Value) (h0 : Heap) (n0 : Nat) (Z0 : n0 ≤ h0.size) (ga : n0 ≤ a) (ge : n0 ≤ ed) (F : ALF Z h0 a (.ref ed) (.int (Int32.ofNat n)) (.int m0)) (B : Ao Z h0 ed "java/lang/Object" 10 g) (hn : n < 10) (ne : a ≠ ed) (x : Addr) (Cx0 : String) (Ex : Exa Z h0 x Cx0) (wOb : (Cond.castable Cx0 "java/lang/Object").before a0 Z = true) :
    Ctr l Z (⟨"java/util/ArrayList", "add", "(Ljava/lang/Object;)Z"⟩ : MethodName) jdk_38_method_25_code 2 (some .boolean) rmA1 #[(.ref a), (.ref x)] h0 n0 (fun v h => v = some (.int 1) ∧ Keep h0 h [a, ed] ∧ ALF Z h a (.ref ed) (.int (Int32.ofNat (n + 1))) (.int (m0 + 1)) ∧ Ao Z h ed "java/lang/Object" 10 (fun j => if j = n then .ref x else g j)) := by
  have hw := G.1
  refine Ctr.of (n1 := n0) #[.val (.ref a), .val (.ref x)] (plainFor_of_name pn8) (fun m => by first | (simp [entryFrame, mkF, argsToLocals, Value.category, maxLocals]; done) | rfl) ?_
  intro p e s m below meth c C
  refine g_aloadN C d6_0 (v := (.ref a)) rfl rfl (q := 1) rfl ?_
  refine g_dup C d6_1 rfl (q := 2) rfl ?_
  refine g_getf C d6_2 (host := "") (Or.inl (wd48 hw)) (Via.of (wd49 hw)) F.2.2.2 (q := 5) rfl ?_
  refine g_iconst C d6_5 (z := (1 : Int32)) rfl (q := 6) rfl ?_
  refine g_iadd C d6_6 (q := 7) rfl ?_
  refine g_putf C d6_7 (host := "") (Or.inl (wd48 hw)) (Via.of (wd49 hw)) F.2.2.2 F.1 (Or.inl (wd35 hw)) (wd14 hw) (ty := .int) (by decide) rfl rfl ga (q := 10) rfl (fun h1 W1 => ?_)
  have F1 := F.w2 hw W1
  refine g_aloadN C d6_10 (v := (.ref a)) rfl rfl (q := 11) rfl ?_
  refine g_aloadN C d6_11 (v := (.ref x)) rfl rfl (q := 12) rfl ?_
  refine g_aloadN C d6_12 (v := (.ref a)) rfl rfl (q := 13) rfl ?_
  refine g_getf C d6_13 (host := "") (Or.inl (wd37 hw)) Via.refl F1.2.1 (q := 16) rfl ?_
  refine g_aloadN C d6_16 (v := (.ref a)) rfl rfl (q := 17) rfl ?_
  refine g_getf C d6_17 (host := "") (Or.inl (wd50 hw)) Via.refl F1.2.2.1 (q := 20) rfl ?_
  refine g_callP C (W := 0) (argsL := [(.ref x), (.ref ed), (.int (Int32.ofNat n))]) (rest := []) (a := a) d6_20 (wd52 hw) (wd53 hw) (wd14 hw) (wd56 hw) (by decide) (priv_of C (wd54 hw)) F1.1 (Ctr.bk (c_add3b l Z a0 G a ed (.int (m0 + 1)) n g h1 n0 (by rw [W1.size]; exact Z0) ga ge F1 (B.other W1 (Ne.symm ne)) hn ne x Cx0 (Ex.wr W1) wOb) C (wd56 hw) (wd15 hw) (by decide) (by decide)) (by decide) (by decide) rfl (lenOf pd22 rfl) rfl rfl (q := 23) rfl (fun v2 h2 hQ2 => ?_)
  obtain ⟨rfl, K2, F2, B2⟩ := hQ2
  refine ⟨[], rfl, ?_⟩
  refine g_iconst C d6_23 (z := (1 : Int32)) rfl (q := 24) rfl ?_
  refine g_nreturn C d6_24 (by simp) rfl (Nat.le_refl _) (by decide) (by decide) ⟨rfl, ((Keep.refl h0 [a, ed]).wr W1 (Or.inl (by simp))).trans K2 (fun x hx => Or.inl hx), F2, B2⟩
set_option maxRecDepth 65536 in
set_option maxHeartbeats 40000000 in
theorem c_chk (l : Launch) (Z : State) (a0 : Array Value) (G : Gl Z a0) (i n : Nat) (hi : i < n) (hnn : n < 2 ^ 31) (h0 : Heap) (n0 : Nat) :
    Ctr l Z (⟨"jdk/internal/util/Preconditions", "checkIndex", "(IILjava/util/function/BiFunction;)I"⟩ : MethodName) jdk_41_method_11_code 3 (some .int) rmE0 #[(.int (Int32.ofNat i)), (.int (Int32.ofNat n)), .null] h0 n0 (fun v h => h0 = h ∧ v = some (.int (Int32.ofNat i))) := by
  have hw := G.1
  refine Ctr.of (n1 := n0) #[.val (.int (Int32.ofNat i)), .val (.int (Int32.ofNat n)), .val .null] (plainFor_of_name pn9) (fun m => by first | (simp [entryFrame, mkF, argsToLocals, Value.category, maxLocals]; done) | rfl) ?_
  intro p e s m below meth c C
  refine g_iloadN C d31_0 (v := (Int32.ofNat i)) rfl (q := 1) rfl ?_
  refine g_if_lt C d31_1 (q' := 9) (q := 4) (by decide) (by decide) rfl (fun hy => absurd hy (nn32 (by omega))) (fun hn => ?_)
  refine g_iloadN C d31_4 (v := (Int32.ofNat i)) rfl (q := 5) rfl ?_
  refine g_iloadN C d31_5 (v := (Int32.ofNat n)) rfl (q := 6) rfl ?_
  refine g_icmp_lt C d31_6 (q' := 16) (q := 9) (by decide) (by decide) rfl (fun hy => ?_) (fun hn_ => absurd (by rw [Int32.lt_iff_toInt_lt, Int32.toInt_ofNat_of_lt (by omega), Int32.toInt_ofNat_of_lt hnn]; omega) hn_)
  refine g_iloadN C d31_16 (v := (Int32.ofNat i)) rfl (q := 17) rfl ?_
  refine g_ireturn C d31_17 (Nat.le_refl _) (by decide) (by decide) ⟨rfl, rfl⟩
set_option maxRecDepth 65536 in
set_option maxHeartbeats 40000000 in
theorem c_ochk (l : Launch) (Z : State) (a0 : Array Value) (G : Gl Z a0) (i n : Nat) (hi : i < n) (hnn : n < 2 ^ 31) (h0 : Heap) (n0 : Nat) :
    Ctr l Z (⟨"java/util/Objects", "checkIndex", "(II)I"⟩ : MethodName) jdk_31_method_17_code 2 (some .int) rmE1 #[(.int (Int32.ofNat i)), (.int (Int32.ofNat n))] h0 n0 (fun v h => h0 = h ∧ v = some (.int (Int32.ofNat i))) := by
  have hw := G.1
  refine Ctr.of (n1 := n0) #[.val (.int (Int32.ofNat i)), .val (.int (Int32.ofNat n))] (plainFor_of_name pn10) (fun m => by first | (simp [entryFrame, mkF, argsToLocals, Value.category, maxLocals]; done) | rfl) ?_
  intro p e s m below meth c C
  refine g_iloadN C d30_0 (v := (Int32.ofNat i)) rfl (q := 1) rfl ?_
  refine g_iloadN C d30_1 (v := (Int32.ofNat n)) rfl (q := 2) rfl ?_
  refine g_aconst_null C d30_2 (q := 3) rfl ?_
  refine g_callS C (W := 0) (argsL := [(.int (Int32.ofNat i)), (.int (Int32.ofNat n)), .null]) (rest := []) d30_3 (wd228 hw) (wd229 hw) (wd230 hw) (wd231 hw) (by decide) (Ctr.bk (c_chk l Z a0 G i n hi hnn h0 n0) C (wd231 hw) (wd230 hw) (by decide) (by decide)) (by decide) (by decide) rfl (lenOf pd23 rfl) rfl rfl (q := 6) rfl (fun v1 h1 hQ1 => ?_)
  obtain ⟨rfl, rfl⟩ := hQ1
  refine ⟨[(.int (Int32.ofNat i))], rfl, ?_⟩
  refine g_ireturn C d30_6 (Nat.le_refl _) (by decide) (by decide) ⟨rfl, rfl⟩
set_option maxRecDepth 65536 in
set_option maxHeartbeats 40000000 in
theorem c_elem (l : Launch) (Z : State) (a0 : Array Value) (G : Gl Z a0) (a ed x : Addr) (v2 : Value) (n N i : Nat) (g : Nat → Value) (h0 : Heap) (n0 : Nat) (F : ALF Z h0 a (.ref ed) (.int (Int32.ofNat n)) v2) (B : Av Z h0 ed (.object "java/lang/Object") N g) (hi : i < n) (hnN : n ≤ N) (hN : N < 2 ^ 31) (gi : g i = .ref x) :
    Ctr l Z (⟨"java/util/ArrayList", "elementData", "(I)Ljava/lang/Object;"⟩ : MethodName) jdk_38_method_18_code 2 (some (.object "java/lang/Object")) rmE0 #[(.ref a), (.int (Int32.ofNat i))] h0 n0 (fun v h => h0 = h ∧ v = some (.ref x)) := by
  have hw := G.1
  refine Ctr.of (n1 := n0) #[.val (.ref a), .val (.int (Int32.ofNat i))] (plainFor_of_name pn8) (fun m => by first | (simp [entryFrame, mkF, argsToLocals, Value.category, maxLocals]; done) | rfl) ?_
  intro p e s m below meth c C
  refine g_aloadN C d32_0 (v := (.ref a)) rfl rfl (q := 1) rfl ?_
  refine g_getf C d32_1 (host := "") (Or.inl (wd37 hw)) Via.refl F.2.1 (q := 4) rfl ?_
  refine g_iloadN C d32_4 (v := (Int32.ofNat i)) rfl (q := 5) rfl ?_
  refine g_aaload C d32_5 (i := i) B rfl (by omega) rfl gi (q := 6) rfl ?_
  refine g_areturn C d32_6 rfl rfl (Nat.le_refl _) (by decide) (by decide) ⟨rfl, rfl⟩
set_option maxRecDepth 65536 in
set_option maxHeartbeats 40000000 in
theorem c_get (l : Launch) (Z : State) (a0 : Array Value) (G : Gl Z a0) (a ed x : Addr) (v2 : Value) (n N i : Nat) (g : Nat → Value) (h0 : Heap) (n0 : Nat) (F : ALF Z h0 a (.ref ed) (.int (Int32.ofNat n)) v2) (B : Av Z h0 ed (.object "java/lang/Object") N g) (hi : i < n) (hnN : n ≤ N) (hN : N < 2 ^ 31) (gi : g i = .ref x) :
    Ctr l Z (⟨"java/util/ArrayList", "get", "(I)Ljava/lang/Object;"⟩ : MethodName) jdk_38_method_20_code 2 (some (.object "java/lang/Object")) rmE2 #[(.ref a), (.int (Int32.ofNat i))] h0 n0 (fun v h => h0 = h ∧ v = some (.ref x)) := by
  have hw := G.1
  refine Ctr.of (n1 := n0) #[.val (.ref a), .val (.int (Int32.ofNat i))] (plainFor_of_name pn8) (fun m => by first | (simp [entryFrame, mkF, argsToLocals, Value.category, maxLocals]; done) | rfl) ?_
  intro p e s m below meth c C
  refine g_iloadN C d29_0 (v := (Int32.ofNat i)) rfl (q := 1) rfl ?_
  refine g_aloadN C d29_1 (v := (.ref a)) rfl rfl (q := 2) rfl ?_
  refine g_getf C d29_2 (host := "") (Or.inl (wd50 hw)) Via.refl F.2.2.1 (q := 5) rfl ?_
  refine g_callS C (W := 0) (argsL := [(.int (Int32.ofNat i)), (.int (Int32.ofNat n))]) (rest := []) d29_5 (wd224 hw) (wd225 hw) (wd226 hw) (wd227 hw) (by decide) (Ctr.bk (c_ochk l Z a0 G i n hi (by omega) h0 n0) C (wd227 hw) (wd226 hw) (by decide) (by decide)) (by decide) (by decide) rfl (lenOf pd12 rfl) rfl rfl (q := 8) rfl (fun v1 h1 hQ1 => ?_)
  obtain ⟨rfl, rfl⟩ := hQ1
  refine ⟨[(.int (Int32.ofNat i))], rfl, ?_⟩
  refine g_pop C d29_8 rfl (q := 9) rfl ?_
  refine g_aloadN C d29_9 (v := (.ref a)) rfl rfl (q := 10) rfl ?_
  refine g_iloadN C d29_10 (v := (Int32.ofNat i)) rfl (q := 11) rfl ?_
  refine g_callV C (W := 0) (argsL := [(.int (Int32.ofNat i))]) (rest := []) (a := a) d29_11 (wd232 hw) (wd233 hw) (wd235 hw) (wd234 hw) (by decide) (nf_of C (wd235 hw)) F.1 (Ctr.bk (c_elem l Z a0 G a ed x v2 n N i g h0 n0 F B hi hnN hN gi) C (wd236 hw) (wd15 hw) (by decide) (by decide)) (by decide) (by decide) rfl (lenOf pd24 rfl) rfl rfl (q := 14) rfl (fun v2 h2 hQ2 => ?_)
  obtain ⟨rfl, rfl⟩ := hQ2
  refine ⟨[(.ref x)], rfl, ?_⟩
  refine g_areturn C d29_14 rfl rfl (Nat.le_refl _) (by decide) (by decide) ⟨rfl, rfl⟩
def KIF (Z : State) (h : Heap) (a : Addr) (v0 v1 v2 v3 v4 v5 : Value) : Prop := Exa Z h a "com/example/recordweave/recordweave/store/KeyIndex" ∧ Fld Z h a "com/example/recordweave/recordweave/store/KeyIndex" "keysOfFile" "Ljava/util/List;" v0 ∧ Fld Z h a "com/example/recordweave/recordweave/store/KeyIndex" "files" "[I" v1 ∧ Fld Z h a "com/example/recordweave/recordweave/store/KeyIndex" "starts" "[I" v2 ∧ Fld Z h a "com/example/recordweave/recordweave/store/KeyIndex" "ends" "[I" v3 ∧ Fld Z h a "com/example/recordweave/recordweave/store/KeyIndex" "size" "I" v4 ∧ Fld Z h a "com/example/recordweave/recordweave/store/KeyIndex" "table" "[I" v5
theorem KIF.ext {Z : State} {h h' : Heap} {a : Addr} {v0 v1 v2 v3 v4 v5 : Value} (F : KIF Z h a v0 v1 v2 v3 v4 v5) (E : Ext h h') : KIF Z h' a v0 v1 v2 v3 v4 v5 := ⟨F.1.ext E, F.2.1.ext E, F.2.2.1.ext E, F.2.2.2.1.ext E, F.2.2.2.2.1.ext E, F.2.2.2.2.2.1.ext E, F.2.2.2.2.2.2.ext E⟩
theorem KIF.other {Z : State} {h h' : Heap} {a : Addr} {v0 v1 v2 v3 v4 v5 : Value} {b : Addr} {sl : Nat} {v : Value} (F : KIF Z h a v0 v1 v2 v3 v4 v5) (W : Wr h h' b sl v) (ne : a ≠ b) : KIF Z h' a v0 v1 v2 v3 v4 v5 := ⟨F.1.wr W, F.2.1.other W (Or.inl ne), F.2.2.1.other W (Or.inl ne), F.2.2.2.1.other W (Or.inl ne), F.2.2.2.2.1.other W (Or.inl ne), F.2.2.2.2.2.1.other W (Or.inl ne), F.2.2.2.2.2.2.other W (Or.inl ne)⟩
theorem KIF.keep {Z : State} {h h' : Heap} {a : Addr} {v0 v1 v2 v3 v4 v5 : Value} {ws : List Addr} (F : KIF Z h a v0 v1 v2 v3 v4 v5) (K : Keep h h' ws) (ne : a ∉ ws) : KIF Z h' a v0 v1 v2 v3 v4 v5 := ⟨F.1.keep K, F.2.1.keep K ne, F.2.2.1.keep K ne, F.2.2.2.1.keep K ne, F.2.2.2.2.1.keep K ne, F.2.2.2.2.2.1.keep K ne, F.2.2.2.2.2.2.keep K ne⟩
theorem KIF.w0 {Z : State} {h h' : Heap} {a : Addr} {v0 v1 v2 v3 v4 v5 : Value} {a0 : Array Value} {v : Value} (hw : ∀ d ∈ tables_1, d.before a0 Z = true) (F : KIF Z h a v0 v1 v2 v3 v4 v5) (W : Wr h h' a (Jvm.RoadKit.slotOf Z "com/example/recordweave/recordweave/store/KeyIndex" "keysOfFile" "Ljava/util/List;") v) : KIF Z h' a v v1 v2 v3 v4 v5 := ⟨F.1.wr W, F.2.1.same W, F.2.2.1.other W (Or.inr (slot_ne (Or.inl (wd87 hw)) (Or.inr (wd84 hw)) (by decide) (t := (.array .int)) (t' := (.object "java/util/List")) (by decide) (by decide))), F.2.2.2.1.other W (Or.inr (slot_ne (Or.inl (wd89 hw)) (Or.inr (wd84 hw)) (by decide) (t := (.array .int)) (t' := (.object "java/util/List")) (by decide) (by decide))), F.2.2.2.2.1.other W (Or.inr (slot_ne (Or.inl (wd91 hw)) (Or.inr (wd84 hw)) (by decide) (t := (.array .int)) (t' := (.object "java/util/List")) (by decide) (by decide))), F.2.2.2.2.2.1.other W (Or.inr (slot_ne (Or.inl (wd247 hw)) (Or.inr (wd84 hw)) (by decide) (t := .int) (t' := (.object "java/util/List")) (by decide) (by decide))), F.2.2.2.2.2.2.other W (Or.inr (slot_ne (Or.inl (wd93 hw)) (Or.inr (wd84 hw)) (by decide) (t := (.array .int)) (t' := (.object "java/util/List")) (by decide) (by decide)))⟩
theorem KIF.w1 {Z : State} {h h' : Heap} {a : Addr} {v0 v1 v2 v3 v4 v5 : Value} {a0 : Array Value} {v : Value} (hw : ∀ d ∈ tables_1, d.before a0 Z = true) (F : KIF Z h a v0 v1 v2 v3 v4 v5) (W : Wr h h' a (Jvm.RoadKit.slotOf Z "com/example/recordweave/recordweave/store/KeyIndex" "files" "[I") v) : KIF Z h' a v0 v v2 v3 v4 v5 := ⟨F.1.wr W, F.2.1.other W (Or.inr (slot_ne (Or.inr (wd84 hw)) (Or.inl (wd87 hw)) (by decide) (t := (.object "java/util/List")) (t' := (.array .int)) (by decide) (by decide))), F.2.2.1.same W, F.2.2.2.1.other W (Or.inr (slot_ne (Or.inl (wd89 hw)) (Or.inl (wd87 hw)) (by decide) (t := (.array .int)) (t' := (.array .int)) (by decide) (by decide))), F.2.2.2.2.1.other W (Or.inr (slot_ne (Or.inl (wd91 hw)) (Or.inl (wd87 hw)) (by decide) (t := (.array .int)) (t' := (.array .int)) (by decide) (by decide))), F.2.2.2.2.2.1.other W (Or.inr (slot_ne (Or.inl (wd247 hw)) (Or.inl (wd87 hw)) (by decide) (t := .int) (t' := (.array .int)) (by decide) (by decide))), F.2.2.2.2.2.2.other W (Or.inr (slot_ne (Or.inl (wd93 hw)) (Or.inl (wd87 hw)) (by decide) (t := (.array .int)) (t' := (.array .int)) (by decide) (by decide)))⟩
theorem KIF.w2 {Z : State} {h h' : Heap} {a : Addr} {v0 v1 v2 v3 v4 v5 : Value} {a0 : Array Value} {v : Value} (hw : ∀ d ∈ tables_1, d.before a0 Z = true) (F : KIF Z h a v0 v1 v2 v3 v4 v5) (W : Wr h h' a (Jvm.RoadKit.slotOf Z "com/example/recordweave/recordweave/store/KeyIndex" "starts" "[I") v) : KIF Z h' a v0 v1 v v3 v4 v5 := ⟨F.1.wr W, F.2.1.other W (Or.inr (slot_ne (Or.inr (wd84 hw)) (Or.inl (wd89 hw)) (by decide) (t := (.object "java/util/List")) (t' := (.array .int)) (by decide) (by decide))), F.2.2.1.other W (Or.inr (slot_ne (Or.inl (wd87 hw)) (Or.inl (wd89 hw)) (by decide) (t := (.array .int)) (t' := (.array .int)) (by decide) (by decide))), F.2.2.2.1.same W, F.2.2.2.2.1.other W (Or.inr (slot_ne (Or.inl (wd91 hw)) (Or.inl (wd89 hw)) (by decide) (t := (.array .int)) (t' := (.array .int)) (by decide) (by decide))), F.2.2.2.2.2.1.other W (Or.inr (slot_ne (Or.inl (wd247 hw)) (Or.inl (wd89 hw)) (by decide) (t := .int) (t' := (.array .int)) (by decide) (by decide))), F.2.2.2.2.2.2.other W (Or.inr (slot_ne (Or.inl (wd93 hw)) (Or.inl (wd89 hw)) (by decide) (t := (.array .int)) (t' := (.array .int)) (by decide) (by decide)))⟩
theorem KIF.w3 {Z : State} {h h' : Heap} {a : Addr} {v0 v1 v2 v3 v4 v5 : Value} {a0 : Array Value} {v : Value} (hw : ∀ d ∈ tables_1, d.before a0 Z = true) (F : KIF Z h a v0 v1 v2 v3 v4 v5) (W : Wr h h' a (Jvm.RoadKit.slotOf Z "com/example/recordweave/recordweave/store/KeyIndex" "ends" "[I") v) : KIF Z h' a v0 v1 v2 v v4 v5 := ⟨F.1.wr W, F.2.1.other W (Or.inr (slot_ne (Or.inr (wd84 hw)) (Or.inl (wd91 hw)) (by decide) (t := (.object "java/util/List")) (t' := (.array .int)) (by decide) (by decide))), F.2.2.1.other W (Or.inr (slot_ne (Or.inl (wd87 hw)) (Or.inl (wd91 hw)) (by decide) (t := (.array .int)) (t' := (.array .int)) (by decide) (by decide))), F.2.2.2.1.other W (Or.inr (slot_ne (Or.inl (wd89 hw)) (Or.inl (wd91 hw)) (by decide) (t := (.array .int)) (t' := (.array .int)) (by decide) (by decide))), F.2.2.2.2.1.same W, F.2.2.2.2.2.1.other W (Or.inr (slot_ne (Or.inl (wd247 hw)) (Or.inl (wd91 hw)) (by decide) (t := .int) (t' := (.array .int)) (by decide) (by decide))), F.2.2.2.2.2.2.other W (Or.inr (slot_ne (Or.inl (wd93 hw)) (Or.inl (wd91 hw)) (by decide) (t := (.array .int)) (t' := (.array .int)) (by decide) (by decide)))⟩
theorem KIF.w4 {Z : State} {h h' : Heap} {a : Addr} {v0 v1 v2 v3 v4 v5 : Value} {a0 : Array Value} {v : Value} (hw : ∀ d ∈ tables_1, d.before a0 Z = true) (F : KIF Z h a v0 v1 v2 v3 v4 v5) (W : Wr h h' a (Jvm.RoadKit.slotOf Z "com/example/recordweave/recordweave/store/KeyIndex" "size" "I") v) : KIF Z h' a v0 v1 v2 v3 v v5 := ⟨F.1.wr W, F.2.1.other W (Or.inr (slot_ne (Or.inr (wd84 hw)) (Or.inl (wd247 hw)) (by decide) (t := (.object "java/util/List")) (t' := .int) (by decide) (by decide))), F.2.2.1.other W (Or.inr (slot_ne (Or.inl (wd87 hw)) (Or.inl (wd247 hw)) (by decide) (t := (.array .int)) (t' := .int) (by decide) (by decide))), F.2.2.2.1.other W (Or.inr (slot_ne (Or.inl (wd89 hw)) (Or.inl (wd247 hw)) (by decide) (t := (.array .int)) (t' := .int) (by decide) (by decide))), F.2.2.2.2.1.other W (Or.inr (slot_ne (Or.inl (wd91 hw)) (Or.inl (wd247 hw)) (by decide) (t := (.array .int)) (t' := .int) (by decide) (by decide))), F.2.2.2.2.2.1.same W, F.2.2.2.2.2.2.other W (Or.inr (slot_ne (Or.inl (wd93 hw)) (Or.inl (wd247 hw)) (by decide) (t := (.array .int)) (t' := .int) (by decide) (by decide)))⟩
theorem KIF.w5 {Z : State} {h h' : Heap} {a : Addr} {v0 v1 v2 v3 v4 v5 : Value} {a0 : Array Value} {v : Value} (hw : ∀ d ∈ tables_1, d.before a0 Z = true) (F : KIF Z h a v0 v1 v2 v3 v4 v5) (W : Wr h h' a (Jvm.RoadKit.slotOf Z "com/example/recordweave/recordweave/store/KeyIndex" "table" "[I") v) : KIF Z h' a v0 v1 v2 v3 v4 v := ⟨F.1.wr W, F.2.1.other W (Or.inr (slot_ne (Or.inr (wd84 hw)) (Or.inl (wd93 hw)) (by decide) (t := (.object "java/util/List")) (t' := (.array .int)) (by decide) (by decide))), F.2.2.1.other W (Or.inr (slot_ne (Or.inl (wd87 hw)) (Or.inl (wd93 hw)) (by decide) (t := (.array .int)) (t' := (.array .int)) (by decide) (by decide))), F.2.2.2.1.other W (Or.inr (slot_ne (Or.inl (wd89 hw)) (Or.inl (wd93 hw)) (by decide) (t := (.array .int)) (t' := (.array .int)) (by decide) (by decide))), F.2.2.2.2.1.other W (Or.inr (slot_ne (Or.inl (wd91 hw)) (Or.inl (wd93 hw)) (by decide) (t := (.array .int)) (t' := (.array .int)) (by decide) (by decide))), F.2.2.2.2.2.1.other W (Or.inr (slot_ne (Or.inl (wd247 hw)) (Or.inl (wd93 hw)) (by decide) (t := .int) (t' := (.array .int)) (by decide) (by decide))), F.2.2.2.2.2.2.same W⟩
theorem Av.ne_av {Z : State} {h : Heap} {a b : Addr} {ty ty' : FieldType} {N M : Nat} {f g : Nat → Value} (A : Av Z h a ty N f) (B : Av Z h b ty' M g) (ne : ty ≠ ty') : a ≠ b := by
  rintro rfl
  obtain ⟨c1, ⟨p1, ⟨-, k1, p2, q1, p3⟩, -⟩, -⟩ := A
  obtain ⟨c2, ⟨r1, ⟨-, k2, r2, q2, r3⟩, -⟩, -⟩ := B
  cases p1.symm.trans r1
  cases p2.symm.trans r2
  rw [p3] at r3
  cases r3
  exact ne rfl
theorem exa_ne {Z : State} {h : Heap} {a b : Addr} {C D : String} (A : Exa Z h a C) (B : Exa Z h b D) (ne : C ≠ D) : a ≠ b := by
  rintro rfl
  obtain ⟨c1, k1, p1, p2, -⟩ := A
  obtain ⟨c2, k2, r1, r2, -⟩ := B
  cases p1.symm.trans r1
  obtain ⟨x1, y1, z1⟩ := Vm.findClass_spec p2
  obtain ⟨x2, y2, z2⟩ := Vm.findClass_spec r2
  cases y1.symm.trans y2
  exact ne (z1.symm.trans z2)
def DI (A : Nat → Addr) : Prop := A 3 ≠ A 4 ∧ A 3 ≠ A 5 ∧ A 3 ≠ A 6 ∧ A 4 ≠ A 5 ∧ A 4 ≠ A 6 ∧ A 5 ≠ A 6
/-- the index with m files (at least one) and the held keys hd -/
def KX (Z : State) (h : Heap) (A : Nat → Addr) (m : Nat) (mc : Int32) (hd : HD) (T sf Lb : Nat → Nat) (cb : Nat → Nat → Value) : Prop :=
  KIF Z h (A 0) (.ref (A 1)) (.ref (A 3)) (.ref (A 4)) (.ref (A 5)) (.int (Int32.ofNat hd.length)) (.ref (A 6)) ∧ ALF Z h (A 1) (.ref (A 2)) (.int (Int32.ofNat m)) (.int mc) ∧ Ao Z h (A 2) "java/lang/Object" 10 (fun j => if j < m then .ref (A (7 + j)) else .null) ∧
  (∃ f, Av Z h (A 3) .int 1024 f ∧ ∀ j, j < hd.length → f j = .int (Int32.ofNat (flx hd j))) ∧ (∃ f, Av Z h (A 4) .int 1024 f ∧ ∀ j, j < hd.length → f j = .int (Int32.ofNat (sf j))) ∧ (∃ f, Av Z h (A 5) .int 1024 f ∧ ∀ j, j < hd.length → f j = .int (Int32.ofNat (sf j + (kyx hd j).length))) ∧
  Av Z h (A 6) .int 2048 (fun j => .int (Int32.ofNat (T j))) ∧ (∀ j, j < m → Exa Z h (A (7 + j)) "[B" ∧ Av Z h (A (7 + j)) .byte (Lb j) (cb j)) ∧
  Inv T hd ∧ hd.length ≤ 6 ∧ m ≤ 2 ∧ (∀ j, j < m → Lb j ≤ 18) ∧ (∀ i, i < hd.length → flx hd i < m ∧ sf i + (kyx hd i).length ≤ Lb (flx hd i) ∧ (kyx hd i).length ≤ 6 ∧ ∀ t, t < (kyx hd i).length → cb (flx hd i) (sf i + t) = .int ((kyx hd i).getD t 0)) ∧ DI A ∧ (∀ i j, i < m → j < m → A (7 + i) = A (7 + j) → i = j)
theorem KX.keep {Z : State} {h h' : Heap} {A : Nat → Addr} {m : Nat} {mc : Int32} {hd : HD} {T sf Lb : Nat → Nat} {cb : Nat → Nat → Value} (X : KX Z h A m mc hd T sf Lb cb) (K : Keep h h' []) : KX Z h' A m mc hd T sf Lb cb := by
  obtain ⟨F, FA, BO, ⟨f3, B3, p3⟩, ⟨f4, B4, p4⟩, ⟨f5, B5, p5⟩, BT, BF, r⟩ := X
  exact ⟨F.keep K (by simp), FA.keep K (by simp), BO.keep K (by simp), ⟨f3, B3.keep K (by simp), p3⟩, ⟨f4, B4.keep K (by simp), p4⟩, ⟨f5, B5.keep K (by simp), p5⟩, BT.keep K (by simp), fun j hj => ⟨(BF j hj).1.keep K, (BF j hj).2.keep K (by simp)⟩, r⟩
abbrev rmK0 : Room := { frames := 0, cells := 0, slots := 0, locals := 0 }
abbrev rmK1 : Room := { frames := 1, cells := 0, slots := 0, locals := 24 }
abbrev rmK2 : Room := { frames := 2, cells := 0, slots := 0, locals := 48 }
abbrev rmK3 : Room := { frames := 3, cells := 0, slots := 0, locals := 80 }
abbrev rmK4 : Room := { frames := 4, cells := 0, slots := 0, locals := 104 }
abbrev rmI1 : Room := { frames := 2, cells := 1, slots := 8, locals := 40 }
abbrev rmAI : Room := { frames := 3, cells := 1, slots := 4, locals := 64 }
abbrev rmKI : Room := { frames := 4, cells := 5, slots := 5200, locals := 96 }
abbrev rmFO : Room := { frames := 5, cells := 2, slots := 32, locals := 160 }
def ITF (Z : State) (h : Heap) (a : Addr) (v0 v1 v2 v3 : Value) : Prop := Exa Z h a "java/util/ArrayList$Itr" ∧ Fld Z h a "java/util/ArrayList$Itr" "cursor" "I" v0 ∧ Fld Z h a "java/util/ArrayList$Itr" "lastRet" "I" v1 ∧ Fld Z h a "java/util/ArrayList$Itr" "expectedModCount" "I" v2 ∧ Fld Z h a "java/util/ArrayList$Itr" "this$0" "Ljava/util/ArrayList;" v3
theorem ITF.ext {Z : State} {h h' : Heap} {a : Addr} {v0 v1 v2 v3 : Value} (F : ITF Z h a v0 v1 v2 v3) (E : Ext h h') : ITF Z h' a v0 v1 v2 v3 := ⟨F.1.ext E, F.2.1.ext E, F.2.2.1.ext E, F.2.2.2.1.ext E, F.2.2.2.2.ext E⟩
theorem ITF.other {Z : State} {h h' : Heap} {a : Addr} {v0 v1 v2 v3 : Value} {b : Addr} {sl : Nat} {v : Value} (F : ITF Z h a v0 v1 v2 v3) (W : Wr h h' b sl v) (ne : a ≠ b) : ITF Z h' a v0 v1 v2 v3 := ⟨F.1.wr W, F.2.1.other W (Or.inl ne), F.2.2.1.other W (Or.inl ne), F.2.2.2.1.other W (Or.inl ne), F.2.2.2.2.other W (Or.inl ne)⟩
theorem ITF.keep {Z : State} {h h' : Heap} {a : Addr} {v0 v1 v2 v3 : Value} {ws : List Addr} (F : ITF Z h a v0 v1 v2 v3) (K : Keep h h' ws) (ne : a ∉ ws) : ITF Z h' a v0 v1 v2 v3 := ⟨F.1.keep K, F.2.1.keep K ne, F.2.2.1.keep K ne, F.2.2.2.1.keep K ne, F.2.2.2.2.keep K ne⟩
theorem ITF.w0 {Z : State} {h h' : Heap} {a : Addr} {v0 v1 v2 v3 : Value} {a0 : Array Value} {v : Value} (hw : ∀ d ∈ tables_1, d.before a0 Z = true) (F : ITF Z h a v0 v1 v2 v3) (W : Wr h h' a (Jvm.RoadKit.slotOf Z "java/util/ArrayList$Itr" "cursor" "I") v) : ITF Z h' a v v1 v2 v3 := ⟨F.1.wr W, F.2.1.same W, F.2.2.1.other W (Or.inr (slot_ne (Or.inl (wd182 hw)) (Or.inl (wd196 hw)) (by decide) (t := .int) (t' := .int) (by decide) (by decide))), F.2.2.2.1.other W (Or.inr (slot_ne (Or.inl (wd185 hw)) (Or.inl (wd196 hw)) (by decide) (t := .int) (t' := .int) (by decide) (by decide))), F.2.2.2.2.other W (Or.inr (slot_ne (Or.inr (wd179 hw)) (Or.inl (wd196 hw)) (by decide) (t := (.object "java/util/ArrayList")) (t' := .int) (by decide) (by decide)))⟩
theorem ITF.w1 {Z : State} {h h' : Heap} {a : Addr} {v0 v1 v2 v3 : Value} {a0 : Array Value} {v : Value} (hw : ∀ d ∈ tables_1, d.before a0 Z = true) (F : ITF Z h a v0 v1 v2 v3) (W : Wr h h' a (Jvm.RoadKit.slotOf Z "java/util/ArrayList$Itr" "lastRet" "I") v) : ITF Z h' a v0 v v2 v3 := ⟨F.1.wr W, F.2.1.other W (Or.inr (slot_ne (Or.inl (wd196 hw)) (Or.inl (wd182 hw)) (by decide) (t := .int) (t' := .int) (by decide) (by decide))), F.2.2.1.same W, F.2.2.2.1.other W (Or.inr (slot_ne (Or.inl (wd185 hw)) (Or.inl (wd182 hw)) (by decide) (t := .int) (t' := .int) (by decide) (by decide))), F.2.2.2.2.other W (Or.inr (slot_ne (Or.inr (wd179 hw)) (Or.inl (wd182 hw)) (by decide) (t := (.object "java/util/ArrayList")) (t' := .int) (by decide) (by decide)))⟩
theorem ITF.w2 {Z : State} {h h' : Heap} {a : Addr} {v0 v1 v2 v3 : Value} {a0 : Array Value} {v : Value} (hw : ∀ d ∈ tables_1, d.before a0 Z = true) (F : ITF Z h a v0 v1 v2 v3) (W : Wr h h' a (Jvm.RoadKit.slotOf Z "java/util/ArrayList$Itr" "expectedModCount" "I") v) : ITF Z h' a v0 v1 v v3 := ⟨F.1.wr W, F.2.1.other W (Or.inr (slot_ne (Or.inl (wd196 hw)) (Or.inl (wd185 hw)) (by decide) (t := .int) (t' := .int) (by decide) (by decide))), F.2.2.1.other W (Or.inr (slot_ne (Or.inl (wd182 hw)) (Or.inl (wd185 hw)) (by decide) (t := .int) (t' := .int) (by decide) (by decide))), F.2.2.2.1.same W, F.2.2.2.2.other W (Or.inr (slot_ne (Or.inr (wd179 hw)) (Or.inl (wd185 hw)) (by decide) (t := (.object "java/util/ArrayList")) (t' := .int) (by decide) (by decide)))⟩
theorem ITF.w3 {Z : State} {h h' : Heap} {a : Addr} {v0 v1 v2 v3 : Value} {a0 : Array Value} {v : Value} (hw : ∀ d ∈ tables_1, d.before a0 Z = true) (F : ITF Z h a v0 v1 v2 v3) (W : Wr h h' a (Jvm.RoadKit.slotOf Z "java/util/ArrayList$Itr" "this$0" "Ljava/util/ArrayList;") v) : ITF Z h' a v0 v1 v2 v := ⟨F.1.wr W, F.2.1.other W (Or.inr (slot_ne (Or.inl (wd196 hw)) (Or.inr (wd179 hw)) (by decide) (t := .int) (t' := (.object "java/util/ArrayList")) (by decide) (by decide))), F.2.2.1.other W (Or.inr (slot_ne (Or.inl (wd182 hw)) (Or.inr (wd179 hw)) (by decide) (t := .int) (t' := (.object "java/util/ArrayList")) (by decide) (by decide))), F.2.2.2.1.other W (Or.inr (slot_ne (Or.inl (wd185 hw)) (Or.inr (wd179 hw)) (by decide) (t := .int) (t' := (.object "java/util/ArrayList")) (by decide) (by decide))), F.2.2.2.2.same W⟩
set_option maxRecDepth 65536 in
set_option maxHeartbeats 40000000 in
theorem c_alsize (l : Launch) (Z : State) (a0 : Array Value) (G : Gl Z a0) (a : Addr) (z : Int32) (v0 v2 : Value) (h0 : Heap) (n0 : Nat) (F : ALF Z h0 a v0 (.int z) v2) :
    Ctr l Z (⟨"java/util/ArrayList", "size", "()I"⟩ : MethodName) jdk_38_method_8_code 1 (some .int) rmK0 #[(.ref a)] h0 n0 (fun v h => h0 = h ∧ v = some (.int z)) := by
  have hw := G.1
  refine Ctr.of (n1 := n0) #[.val (.ref a)] (plainFor_of_name pn8) (fun m => by first | (simp [entryFrame, mkF, argsToLocals, Value.category, maxLocals]; done) | rfl) ?_
  intro p e s m below meth c C
  refine g_aloadN C d22_0 (v := (.ref a)) rfl rfl (q := 1) rfl ?_
  refine g_getf C d22_1 (host := "") (Or.inl (wd50 hw)) Via.refl F.2.2.1 (q := 4) rfl ?_
  refine g_ireturn C d22_4 (Nat.le_refl _) (by decide) (by decide) ⟨rfl, rfl⟩
set_option maxRecDepth 65536 in
set_option maxHeartbeats 40000000 in
theorem c_alinitN (l : Launch) (Z : State) (a0 : Array Value) (G : Gl Z a0) (a : Addr) (v0 v1 v2 : Value) (N : Nat) (hN : 0 < N) (hN3 : N ≤ 3) (h0 : Heap) (n0 : Nat) (ga : n0 ≤ a) (F : ALF Z h0 a v0 v1 v2) :
    Ctr l Z (⟨"java/util/ArrayList", "<init>", "(I)V"⟩ : MethodName) jdk_38_method_1_code 2 none rmAI #[(.ref a), (.int (Int32.ofNat N))] h0 n0 (fun v h => v = none ∧ ∃ r, h0.size ≤ r ∧ Keep h0 h [a] ∧ ALF Z h a (.ref r) v1 (.int 0) ∧ Ao Z h r "java/lang/Object" N (fun _ => .null)) := by
  have hw := G.1
  refine Ctr.of (n1 := n0) #[.val (.ref a), .val (.int (Int32.ofNat N))] (plainFor_of_name pn8) (fun m => by first | (simp [entryFrame, mkF, argsToLocals, Value.category, maxLocals]; done) | rfl) ?_
  intro p e s m below meth c C
  refine g_aloadN C d23_0 (v := (.ref a)) rfl rfl (q := 1) rfl ?_
  refine g_callI C (W := 0) (argsL := []) (rest := []) (a := a) d23_1 rfl (wd19 hw) (wd20 hw) (wd24 hw) (by decide) (Ctr.bk (c_ablinit l Z a0 G a v0 v1 v2 h0 n0 ga F) C (wd24 hw) (wd23 hw) (by decide) (by decide)) (by decide) (by decide) rfl (lenOf pd19 rfl) rfl rfl (q := 4) rfl (fun v1 h1 hQ1 => ?_)
  obtain ⟨rfl, K1, F1⟩ := hQ1
  refine ⟨[], rfl, ?_⟩
  refine g_iloadN C d23_4 (v := (Int32.ofNat N)) rfl (q := 5) rfl ?_
  refine g_if_le C d23_5 (q' := 19) (q := 8) (by decide) (by decide) rfl (fun hy => absurd ((lt_iff (a := 0) (by decide) (by omega)).mpr hN) hy) (fun hn => ?_)
  refine g_aloadN C d23_8 (v := (.ref a)) rfl rfl (q := 9) rfl ?_
  refine g_iloadN C d23_9 (v := (Int32.ofNat N)) rfl (q := 10) rfl ?_
  refine g_anewarray C d23_10 (wd71 hw) (wd72 hw) (nn32 (by omega)) (cap := 3) (by rw [Int32.toNatClampNeg_ofNat_of_lt (by omega)]; exact hN3) (by decide) (by decide) (by decide) (q := 13) rfl (fun r h2 k2 q2 E2 A2 O2 => ?_)
  have B2 : Ao Z h2 r "java/lang/Object" N (fun _ => .null) := by
    have q := Ao.new A2 O2 (nn32 (show N < 2 ^ 31 by omega))
    rw [Int32.toNatClampNeg_ofNat_of_lt (by omega)] at q
    exact q
  have F2 := F1.ext E2
  have gr : h0.size ≤ r := by rw [q2]; exact K1.1
  have ne : r ≠ a := B2.av.ne_exa F2.1 (wd14 hw)
  refine g_putf C d23_13 (host := "") (Or.inl (wd37 hw)) Via.refl F2.2.1 F2.1 (Or.inl (wd38 hw)) (wd14 hw) (ty := (.array (.object "java/lang/Object"))) (by decide) rfl rfl ga (q := 16) rfl (fun h3 W3 => ?_)
  refine g_goto C d23_16 (q := 60) (by decide) (by decide) ?_
  refine g_return C d23_60 (Nat.le_refl _) (by decide) (by decide) ⟨rfl, r, gr, (K1.trans (Ext.kp E2 []) (by simp)).wr W3 (Or.inl (by simp)), F2.w0 hw W3, B2.other W3 ne⟩
set_option maxRecDepth 65536 in
set_option maxHeartbeats 40000000 in
theorem c_add3c (l : Launch) (Z : State) (a0 : Array Value) (G : Gl Z a0) (a ed : Addr) (mc : Value) (n cap : Nat) (g : Nat → Value) (h0 : Heap) (n0 : Nat) (Z0 : n0 ≤ h0.size) (ga : n0 ≤ a) (ge : n0 ≤ ed) (F : ALF Z h0 a (.ref ed) (.int (Int32.ofNat n)) mc) (B : Ao Z h0 ed "java/lang/Object" cap g) (hn : n < cap) (hcap : cap ≤ 10) (ne : a ≠ ed) (x : Addr) (Cx0 : String) (Ex : Exa Z h0 x Cx0) (wOb : (Cond.castable Cx0 "java/lang/Object").before a0 Z = true) :
    Ctr l Z (⟨"java/util/ArrayList", "add", "(Ljava/lang/Object;[Ljava/lang/Object;I)V"⟩ : MethodName) jdk_38_method_24_code 4 none rmK0 #[(.ref a), (.ref x), (.ref ed), (.int (Int32.ofNat n))] h0 n0 (fun v h => v = none ∧ Keep h0 h [a, ed] ∧ ALF Z h a (.ref ed) (.int (Int32.ofNat (n + 1))) mc ∧ Ao Z h ed "java/lang/Object" cap (fun j => if j = n then .ref x else g j)) := by
  have hw := G.1
  refine Ctr.of (n1 := n0) #[.val (.ref a), .val (.ref x), .val (.ref ed), .val (.int (Int32.ofNat n))] (plainFor_of_name pn8) (fun m => by first | (simp [entryFrame, mkF, argsToLocals, Value.category, maxLocals]; done) | rfl) ?_
  intro p e s m below meth c C
  refine g_iloadN C d7_0 (v := (Int32.ofNat n)) rfl (q := 1) rfl ?_
  refine g_aloadN C d7_1 (v := (.ref ed)) rfl rfl (q := 2) rfl ?_
  refine g_alen C d7_2 B.av (z := (Int32.ofNat cap)) rfl (q := 3) rfl ?_
  refine g_icmp_ne C d7_3 (q' := 11) (q := 6) (by decide) (by decide) rfl (fun hy => ?_) (fun hn_ => absurd (of_inj (by omega) (by omega) hn_) (by omega))
  refine g_aloadN C d7_11 (v := (.ref ed)) rfl rfl (q := 12) rfl ?_
  refine g_iloadN C d7_12 (v := (Int32.ofNat n)) rfl (q := 13) rfl ?_
  refine g_aloadN C d7_13 (v := (.ref x)) rfl rfl (q := 14) rfl ?_
  refine g_aastore C d7_14 (i := n) B.av hn rfl rfl (B.sto (Ins.of_exa Ex wOb)) ge (q := 15) rfl (fun h2 W2 B2 => ?_)
  have B2 := B.set W2 hn
  have F2 := F.other W2 ne
  refine g_aloadN C d7_15 (v := (.ref a)) rfl rfl (q := 16) rfl ?_
  refine g_iloadN C d7_16 (v := (Int32.ofNat n)) rfl (q := 17) rfl ?_
  refine g_iconst C d7_17 (z := (1 : Int32)) rfl (q := 18) rfl ?_
  refine g_iadd C d7_18 (q := 19) rfl ?_
  rw [of_succ]
  refine g_putf C d7_19 (host := "") (Or.inl (wd50 hw)) Via.refl F2.2.2.1 F2.1 (Or.inl (wd51 hw)) (wd14 hw) (ty := .int) (by decide) rfl rfl ga (q := 22) rfl (fun h3 W3 => ?_)
  refine g_return C d7_22 (Nat.le_refl _) (by decide) (by decide) ⟨rfl, ((Keep.refl h0 [a, ed]).wr W2 (Or.inl (by simp))).wr W3 (Or.inl (by simp)), F2.w1 hw W3, B2.other W3 (Ne.symm ne)⟩
set_option maxRecDepth 65536 in
set_option maxHeartbeats 40000000 in
theorem c_addc (l : Launch) (Z : State) (a0 : Array Value) (G : Gl Z a0) (a ed : Addr) (m0 : Int32) (n cap : Nat) (g : Nat → Value) (h0 : Heap) (n0 : Nat) (Z0 : n0 ≤ h0.size) (ga : n0 ≤ a) (ge : n0 ≤ ed) (F : ALF Z h0 a (.ref ed) (.int (Int32.ofNat n)) (.int m0)) (B : Ao Z h0 ed "java/lang/Object" cap g) (hn : n < cap) (hcap : cap ≤ 10) (ne : a ≠ ed) (x : Addr) (Cx0 : String) (Ex : Exa Z h0 x Cx0) (wOb : (Cond.castable Cx0 "java/lang/Object").before a0 Z = true) :
    Ctr l Z (⟨"java/util/ArrayList", "add", "(Ljava/lang/Object;)Z"⟩ : MethodName) jdk_38_method_25_code 2 (some .boolean) rmK1 #[(.ref a), (.ref x)] h0 n0 (fun v h => v = some (.int 1) ∧ Keep h0 h [a, ed] ∧ ALF Z h a (.ref ed) (.int (Int32.ofNat (n + 1))) (.int (m0 + 1)) ∧ Ao Z h ed "java/lang/Object" cap (fun j => if j = n then .ref x else g j)) := by
  have hw := G.1
  refine Ctr.of (n1 := n0) #[.val (.ref a), .val (.ref x)] (plainFor_of_name pn8) (fun m => by first | (simp [entryFrame, mkF, argsToLocals, Value.category, maxLocals]; done) | rfl) ?_
  intro p e s m below meth c C
  refine g_aloadN C d6_0 (v := (.ref a)) rfl rfl (q := 1) rfl ?_
  refine g_dup C d6_1 rfl (q := 2) rfl ?_
  refine g_getf C d6_2 (host := "") (Or.inl (wd48 hw)) (Via.of (wd49 hw)) F.2.2.2 (q := 5) rfl ?_
  refine g_iconst C d6_5 (z := (1 : Int32)) rfl (q := 6) rfl ?_
  refine g_iadd C d6_6 (q := 7) rfl ?_
  refine g_putf C d6_7 (host := "") (Or.inl (wd48 hw)) (Via.of (wd49 hw)) F.2.2.2 F.1 (Or.inl (wd35 hw)) (wd14 hw) (ty := .int) (by decide) rfl rfl ga (q := 10) rfl (fun h1 W1 => ?_)
  have F1 := F.w2 hw W1
  refine g_aloadN C d6_10 (v := (.ref a)) rfl rfl (q := 11) rfl ?_
  refine g_aloadN C d6_11 (v := (.ref x)) rfl rfl (q := 12) rfl ?_
  refine g_aloadN C d6_12 (v := (.ref a)) rfl rfl (q := 13) rfl ?_
  refine g_getf C d6_13 (host := "") (Or.inl (wd37 hw)) Via.refl F1.2.1 (q := 16) rfl ?_
  refine g_aloadN C d6_16 (v := (.ref a)) rfl rfl (q := 17) rfl ?_
  refine g_getf C d6_17 (host := "") (Or.inl (wd50 hw)) Via.refl F1.2.2.1 (q := 20) rfl ?_
  refine g_callP C (W := 0) (argsL := [(.ref x), (.ref ed), (.int (Int32.ofNat n))]) (rest := []) (a := a) d6_20 (wd52 hw) (wd53 hw) (wd14 hw) (wd56 hw) (by decide) (priv_of C (wd54 hw)) F1.1 (Ctr.bk (c_add3c l Z a0 G a ed (.int (m0 + 1)) n cap g h1 n0 (by rw [W1.size]; exact Z0) ga ge F1 (B.other W1 (Ne.symm ne)) hn hcap ne x Cx0 (Ex.wr W1) wOb) C (wd56 hw) (wd15 hw) (by decide) (by decide)) (by decide) (by decide) rfl (lenOf pd22 rfl) rfl rfl (q := 23) rfl (fun v2 h2 hQ2 => ?_)
  obtain ⟨rfl, K2, F2, B2⟩ := hQ2
  refine ⟨[], rfl, ?_⟩
  refine g_iconst C d6_23 (z := (1 : Int32)) rfl (q := 24) rfl ?_
  refine g_nreturn C d6_24 (by simp) rfl (Nat.le_refl _) (by decide) (by decide) ⟨rfl, ((Keep.refl h0 [a, ed]).wr W1 (Or.inl (by simp))).trans K2 (fun x hx => Or.inl hx), F2, B2⟩
set_option maxRecDepth 65536 in
set_option maxHeartbeats 40000000 in
theorem c_itinit (l : Launch) (Z : State) (a0 : Array Value) (G : Gl Z a0) (h0 : Heap) (n0 : Nat) (a : Addr) (w0 w1 : Value) (mc : Int32) (FA : ALF Z h0 a w0 w1 (.int mc)) (it : Addr) (v0 v1 v2 v3 : Value) (gi : n0 ≤ it) (F : ITF Z h0 it v0 v1 v2 v3) :
    Ctr l Z (⟨"java/util/ArrayList$Itr", "<init>", "(Ljava/util/ArrayList;)V"⟩ : MethodName) jdk_49_method_1_code 2 none rmK1 #[(.ref it), (.ref a)] h0 n0 (fun v h => v = none ∧ Keep h0 h [it] ∧ ITF Z h it v0 (.int (-1)) (.int mc) (.ref a)) := by
  have hw := G.1
  have ne : a ≠ it := exa_ne FA.1 F.1 (by decide)
  refine Ctr.of (n1 := n0) #[.val (.ref it), .val (.ref a)] (plainFor_of_name pn11) (fun m => by first | (simp [entryFrame, mkF, argsToLocals, Value.category, maxLocals]; done) | rfl) ?_
  intro p e s m below meth c C
  refine g_aloadN C d25_0 (v := (.ref it)) rfl rfl (q := 1) rfl ?_
  refine g_aloadN C d25_1 (v := (.ref a)) rfl rfl (q := 2) rfl ?_
  refine g_putf C d25_2 (host := "") (Or.inl (wd178 hw)) Via.refl F.2.2.2.2 F.1 (Or.inr ⟨(wd179 hw), rfl, rfl⟩) (wd172 hw) (ty := (.object "java/util/ArrayList")) (by decide) rfl rfl gi (q := 5) rfl (fun h1 W1 => ?_)
  have F1 := F.w3 hw W1
  have FA1 := FA.other W1 ne
  refine g_aloadN C d25_5 (v := (.ref it)) rfl rfl (q := 6) rfl ?_
  refine g_initO C d25_6 (wd180 hw) (wd32 hw) (wd33 hw) rfl (by decide) (W := 0) rfl (by decide) (q := 9) rfl ?_
  refine g_aloadN C d25_9 (v := (.ref it)) rfl rfl (q := 10) rfl ?_
  refine g_iconst C d25_10 (z := (-1 : Int32)) rfl (q := 11) rfl ?_
  refine g_putf C d25_11 (host := "") (Or.inl (wd181 hw)) Via.refl F1.2.2.1 F1.1 (Or.inl (wd182 hw)) (wd172 hw) (ty := .int) (by decide) rfl rfl gi (q := 14) rfl (fun h2 W2 => ?_)
  have F2 := F1.w1 hw W2
  have FA2 := FA1.other W2 ne
  refine g_aloadN C d25_14 (v := (.ref it)) rfl rfl (q := 15) rfl ?_
  refine g_aloadN C d25_15 (v := (.ref it)) rfl rfl (q := 16) rfl ?_
  refine g_getf C d25_16 (host := "") (Or.inl (wd178 hw)) Via.refl F2.2.2.2.2 (q := 19) rfl ?_
  refine g_getf C d25_19 (host := "") (Or.inl (wd183 hw)) (Via.of (wd49 hw)) FA2.2.2.2 (q := 22) rfl ?_
  refine g_putf C d25_22 (host := "") (Or.inl (wd184 hw)) Via.refl F2.2.2.2.1 F2.1 (Or.inl (wd185 hw)) (wd172 hw) (ty := .int) (by decide) rfl rfl gi (q := 25) rfl (fun h3 W3 => ?_)
  refine g_return C d25_25 (Nat.le_refl _) (by decide) (by decide) ⟨rfl, (((Keep.refl h0 [it]).wr W1 (Or.inl (by simp))).wr W2 (Or.inl (by simp))).wr W3 (Or.inl (by simp)), F2.w2 hw W3⟩
set_option maxRecDepth 65536 in
set_option maxHeartbeats 40000000 in
theorem c_iter (l : Launch) (Z : State) (a0 : Array Value) (G : Gl Z a0) (h0 : Heap) (n0 : Nat) (Z0 : n0 ≤ h0.size) (a : Addr) (w0 w1 : Value) (mc : Int32) (FA : ALF Z h0 a w0 w1 (.int mc)) :
    Ctr l Z (⟨"java/util/ArrayList", "iterator", "()Ljava/util/Iterator;"⟩ : MethodName) jdk_38_method_55_code 1 (some (.object "java/util/Iterator")) rmI1 #[(.ref a)] h0 n0 (fun v h => ∃ it, v = some (.ref it) ∧ h0.size ≤ it ∧ Keep h0 h [] ∧ ITF Z h it (.int 0) (.int (-1)) (.int mc) (.ref a)) := by
  have hw := G.1
  refine Ctr.of (n1 := n0) #[.val (.ref a)] (plainFor_of_name pn8) (fun m => by first | (simp [entryFrame, mkF, argsToLocals, Value.category, maxLocals]; done) | rfl) ?_
  intro p e s m below meth c C
  refine g_new C d24_0 (wd171 hw) (wd172 hw) (wd173 hw) (by decide) (by decide) (q := 3) rfl (fun it h1 q1 E1 A1 D1 => ?_)
  refine g_dup C d24_3 rfl (q := 4) rfl ?_
  refine g_aloadN C d24_4 (v := (.ref a)) rfl rfl (q := 5) rfl ?_
  refine g_callI C (W := 1) (argsL := [(.ref a)]) (rest := [(.ref it)]) (a := it) d24_5 rfl (wd174 hw) (wd175 hw) (wd177 hw) (by decide) (Ctr.bk (c_itinit l Z a0 G h1 n0 a _ _ mc (FA.ext E1) it _ _ _ _ (by rw [q1]; exact Z0) ⟨A1, D1 (Or.inl (wd196 hw)) (ty := .int) (by decide), D1 (Or.inl (wd182 hw)) (ty := .int) (by decide), D1 (Or.inl (wd185 hw)) (ty := .int) (by decide), D1 (Or.inr (wd179 hw)) (ty := (.object "java/util/ArrayList")) (by decide)⟩) C (wd177 hw) (wd173 hw) (by decide) (by decide)) (by decide) (by decide) rfl (lenOf pd25 rfl) rfl rfl (q := 8) rfl (fun v2 h2 hQ2 => ?_)
  obtain ⟨rfl, K2, F2⟩ := hQ2
  refine ⟨[(.ref it)], rfl, ?_⟩
  refine g_areturn C d24_8 rfl rfl (Nat.le_refl _) (by decide) (by decide) ⟨it, rfl, by rw [q1]; exact Nat.le_refl _, (Ext.kp E1 []).trans K2 (fun x hx => Or.inr (by cases List.mem_singleton.mp hx; rw [q1]; exact Nat.le_refl _)), F2⟩
set_option maxRecDepth 65536 in
set_option maxHeartbeats 40000000 in
theorem c_hasNext (l : Launch) (Z : State) (a0 : Array Value) (G : Gl Z a0) (h0 : Heap) (n0 : Nat) (a ed it : Addr) (n i : Nat) (lr : Value) (mc : Int32) (FA : ALF Z h0 a (.ref ed) (.int (Int32.ofNat n)) (.int mc)) (F : ITF Z h0 it (.int (Int32.ofNat i)) lr (.int mc) (.ref a)) (hi : i ≤ 10) (hn : n ≤ 10) :
    Ctr l Z (⟨"java/util/ArrayList$Itr", "hasNext", "()Z"⟩ : MethodName) jdk_49_method_2_code 1 (some .boolean) rmK0 #[(.ref it)] h0 n0 (fun v h => h0 = h ∧ ∃ r, v = some (.int r) ∧ AN (¬ i = n) r) := by
  have hw := G.1
  refine Ctr.of (n1 := n0) #[.val (.ref it)] (plainFor_of_name pn11) (fun m => by first | (simp [entryFrame, mkF, argsToLocals, Value.category, maxLocals]; done) | rfl) ?_
  intro p e s m below meth c C
  refine g_aloadN C d26_0 (v := (.ref it)) rfl rfl (q := 1) rfl ?_
  refine g_getf C d26_1 (host := "") (Or.inl (wd195 hw)) Via.refl F.2.1 (q := 4) rfl ?_
  refine g_aloadN C d26_4 (v := (.ref it)) rfl rfl (q := 5) rfl ?_
  refine g_getf C d26_5 (host := "") (Or.inl (wd178 hw)) Via.refl F.2.2.2.2 (q := 8) rfl ?_
  refine g_getf C d26_8 (Or.inr (wd197 hw)) Via.refl FA.2.2.1 (q := 11) rfl ?_
  refine g_icmp_eq C d26_11 (q' := 18) (q := 14) (by decide) (by decide) rfl (fun q1 => ?_) (fun q1 => ?_)
  ·
    refine g_iconst C d26_18 (z := (0 : Int32)) rfl (q := 19) rfl ?_
    refine g_nreturn C d26_19 (by simp) (z := 0) rfl (Nat.le_refl _) (by decide) (by decide) ⟨rfl, _, rfl, Or.inr ⟨fun q => q (of_inj (by omega) (by omega) q1), rfl⟩⟩
  ·
    refine g_iconst C d26_14 (z := (1 : Int32)) rfl (q := 15) rfl ?_
    refine g_goto C d26_15 (q := 19) (by decide) (by decide) ?_
    refine g_nreturn C d26_19 (by simp) (z := 1) rfl (Nat.le_refl _) (by decide) (by decide) ⟨rfl, _, rfl, Or.inl ⟨fun q => q1 (by rw [q]), rfl⟩⟩
set_option maxRecDepth 65536 in
set_option maxHeartbeats 40000000 in
theorem c_cfc (l : Launch) (Z : State) (a0 : Array Value) (G : Gl Z a0) (h0 : Heap) (n0 : Nat) (a ed it : Addr) (n i : Nat) (lr : Value) (mc : Int32) (FA : ALF Z h0 a (.ref ed) (.int (Int32.ofNat n)) (.int mc)) (F : ITF Z h0 it (.int (Int32.ofNat i)) lr (.int mc) (.ref a)) :
    Ctr l Z (⟨"java/util/ArrayList$Itr", "checkForComodification", "()V"⟩ : MethodName) jdk_49_method_6_code 1 none rmK0 #[(.ref it)] h0 n0 (fun v h => h0 = h ∧ v = none) := by
  have hw := G.1
  refine Ctr.of (n1 := n0) #[.val (.ref it)] (plainFor_of_name pn11) (fun m => by first | (simp [entryFrame, mkF, argsToLocals, Value.category, maxLocals]; done) | rfl) ?_
  intro p e s m below meth c C
  refine g_aloadN C d28_0 (v := (.ref it)) rfl rfl (q := 1) rfl ?_
  refine g_getf C d28_1 (host := "") (Or.inl (wd178 hw)) Via.refl F.2.2.2.2 (q := 4) rfl ?_
  refine g_getf C d28_4 (host := "") (Or.inl (wd183 hw)) (Via.of (wd49 hw)) FA.2.2.2 (q := 7) rfl ?_
  refine g_aloadN C d28_7 (v := (.ref it)) rfl rfl (q := 8) rfl ?_
  refine g_getf C d28_8 (host := "") (Or.inl (wd184 hw)) Via.refl F.2.2.2.1 (q := 11) rfl ?_
  refine g_icmp_eq C d28_11 (q' := 22) (q := 14) (by decide) (by decide) rfl (fun hy => ?_) (fun hn => absurd rfl hn)
  refine g_return C d28_22 (Nat.le_refl _) (by decide) (by decide) ⟨rfl, rfl⟩
set_option maxRecDepth 65536 in
set_option maxHeartbeats 40000000 in
theorem c_next (l : Launch) (Z : State) (a0 : Array Value) (G : Gl Z a0) (h0 : Heap) (n0 : Nat) (a ed it : Addr) (n i : Nat) (lr : Value) (mc : Int32) (FA : ALF Z h0 a (.ref ed) (.int (Int32.ofNat n)) (.int mc)) (F : ITF Z h0 it (.int (Int32.ofNat i)) lr (.int mc) (.ref a)) (gi : n0 ≤ it) (cap : Nat) (gg : Nat → Value) (B : Av Z h0 ed (.object "java/lang/Object") cap gg) (hi : i < n) (hnc : n ≤ cap) (hcap : cap ≤ 10) (x : Addr) (gx : gg i = .ref x) :
    Ctr l Z (⟨"java/util/ArrayList$Itr", "next", "()Ljava/lang/Object;"⟩ : MethodName) jdk_49_method_3_code 3 (some (.object "java/lang/Object")) rmK1 #[(.ref it)] h0 n0 (fun v h => v = some (.ref x) ∧ Keep h0 h [it] ∧ ITF Z h it (.int (Int32.ofNat (i + 1))) (.int (Int32.ofNat i)) (.int mc) (.ref a)) := by
  have hw := G.1
  have ne : a ≠ it := exa_ne FA.1 F.1 (by decide)
  have neb : ed ≠ it := B.ne_exa F.1 (wd172 hw)
  refine Ctr.of (n1 := n0) #[.val (.ref it), .unset, .unset] (plainFor_of_name pn11) (fun m => by first | (simp [entryFrame, mkF, argsToLocals, Value.category, maxLocals]; done) | rfl) ?_
  intro p e s m below meth c C
  refine g_aloadN C d27_0 (v := (.ref it)) rfl rfl (q := 1) rfl ?_
  refine g_callV C (W := 0) (argsL := []) (rest := []) (a := it) d27_1 (wd206 hw) (wd207 hw) (wd209 hw) (wd208 hw) (by decide) (nf_of C (wd209 hw)) F.1 (Ctr.bk (c_cfc l Z a0 G h0 n0 a ed it n i lr mc FA F) C (wd210 hw) (wd173 hw) (by decide) (by decide)) (by decide) (by decide) rfl (lenOf pd19 rfl) rfl rfl (q := 4) rfl (fun v1 h1 hQ1 => ?_)
  obtain ⟨rfl, rfl⟩ := hQ1
  refine ⟨[], rfl, ?_⟩
  refine g_aloadN C d27_4 (v := (.ref it)) rfl rfl (q := 5) rfl ?_
  refine g_getf C d27_5 (host := "") (Or.inl (wd195 hw)) Via.refl F.2.1 (q := 8) rfl ?_
  refine g_istoreN C d27_8 (L' := #[.val (.ref it), .val (.int (Int32.ofNat i)), .unset]) rfl (q := 9) rfl ?_
  refine g_iloadN C d27_9 (v := (Int32.ofNat i)) rfl (q := 10) rfl ?_
  refine g_aloadN C d27_10 (v := (.ref it)) rfl rfl (q := 11) rfl ?_
  refine g_getf C d27_11 (host := "") (Or.inl (wd178 hw)) Via.refl F.2.2.2.2 (q := 14) rfl ?_
  refine g_getf C d27_14 (Or.inr (wd197 hw)) Via.refl FA.2.2.1 (q := 17) rfl ?_
  refine g_icmp_lt C d27_17 (q' := 28) (q := 20) (by decide) (by decide) rfl (fun hy => ?_) (fun hn_ => absurd ((lt_iff (by omega) (by omega)).mpr hi) hn_)
  refine g_aloadN C d27_28 (v := (.ref it)) rfl rfl (q := 29) rfl ?_
  refine g_getf C d27_29 (host := "") (Or.inl (wd178 hw)) Via.refl F.2.2.2.2 (q := 32) rfl ?_
  refine g_getf C d27_32 (host := "") (Or.inl (wd211 hw)) Via.refl FA.2.1 (q := 35) rfl ?_
  refine g_astoreN C d27_35 rfl (L' := #[.val (.ref it), .val (.int (Int32.ofNat i)), .val (.ref ed)]) rfl (q := 36) rfl ?_
  refine g_iloadN C d27_36 (v := (Int32.ofNat i)) rfl (q := 37) rfl ?_
  refine g_aloadN C d27_37 (v := (.ref ed)) rfl rfl (q := 38) rfl ?_
  refine g_alen C d27_38 B (z := (Int32.ofNat cap)) rfl (q := 39) rfl ?_
  refine g_icmp_lt C d27_39 (q' := 50) (q := 42) (by decide) (by decide) rfl (fun hy => ?_) (fun hn_ => absurd ((lt_iff (by omega) (by omega)).mpr (by omega)) hn_)
  refine g_aloadN C d27_50 (v := (.ref it)) rfl rfl (q := 51) rfl ?_
  refine g_iloadN C d27_51 (v := (Int32.ofNat i)) rfl (q := 52) rfl ?_
  refine g_iconst C d27_52 (z := (1 : Int32)) rfl (q := 53) rfl ?_
  refine g_iadd C d27_53 (q := 54) rfl ?_
  rw [of_succ]
  refine g_putf C d27_54 (host := "") (Or.inl (wd195 hw)) Via.refl F.2.1 F.1 (Or.inl (wd196 hw)) (wd172 hw) (ty := .int) (by decide) rfl rfl gi (q := 57) rfl (fun h1 W1 => ?_)
  have F1 := F.w0 hw W1
  refine g_aloadN C d27_57 (v := (.ref ed)) rfl rfl (q := 58) rfl ?_
  refine g_aloadN C d27_58 (v := (.ref it)) rfl rfl (q := 59) rfl ?_
  refine g_iloadN C d27_59 (v := (Int32.ofNat i)) rfl (q := 60) rfl ?_
  refine g_dup_x1 C d27_60 rfl rfl (q := 61) rfl ?_
  refine g_putf C d27_61 (host := "") (Or.inl (wd181 hw)) Via.refl F1.2.2.1 F1.1 (Or.inl (wd182 hw)) (wd172 hw) (ty := .int) (by decide) rfl rfl gi (q := 64) rfl (fun h2 W2 => ?_)
  have F2 := F1.w1 hw W2
  refine g_aaload C d27_64 (i := i) ((B.other W1 neb).other W2 neb) rfl (by omega) rfl gx (q := 65) rfl ?_
  refine g_areturn C d27_65 rfl rfl (Nat.le_refl _) (by decide) (by decide) ⟨rfl, ((Keep.refl h0 [it]).wr W1 (Or.inl (by simp))).wr W2 (Or.inl (by simp)), F2⟩
set_option maxRecDepth 65536 in
set_option maxHeartbeats 40000000 in
theorem loopH {p : Program} {e : Env} {s : State} {m : MethodId} {args : Array Value} {below : List Frame} {meth : Method} {c : Code} (l : Launch) (Z : State) (a0 : Array Value) (G : Gl Z a0) (h0 : Heap) (n0 : Nat) (b : Addr) (L st : Nat) (g : Nat → Value) (ks : List Int32) (B : Av Z h0 b .byte L g) (hL : L ≤ 18) (h6 : ks.length ≤ 6) (hb : st + ks.length ≤ L) (hg : ∀ t, t < ks.length → g (st + t) = .int (ks.getD t 0)) (C : Cx p s m meth c Z "com/example/recordweave/recordweave/store/KeyIndex" "hash" prog_1_method_7_code 5 (some .int)) (d t : Nat) (hd : d = ks.length - t) (ht : t ≤ ks.length) :
    Go p l e rmK0 s m args below meth c (FinN s below rmK0 n0 (fun v h => h0 = h ∧ v = some (.int (hs ks)))) n0 h0 0 0 5 #[.val (.ref b), .val (.int (Int32.ofNat st)), .val (.int (Int32.ofNat (st + ks.length))), .val (.int ((ks.take t).foldl (fun a b => 31 * a + b) 0)), .val (.int (Int32.ofNat (st + t)))] [] := by
  have hw := G.1
  induction d generalizing t with
  | zero =>
    obtain rfl : t = ks.length := by omega
    rw [List.take_length]
    refine g_iload C d20_5 (v := (Int32.ofNat (st + ks.length))) rfl (q := 7) rfl ?_
    refine g_iloadN C d20_7 (v := (Int32.ofNat (st + ks.length))) rfl (q := 8) rfl ?_
    refine g_icmp_ge C d20_8 (q' := 27) (q := 11) (by decide) (by decide) rfl (fun hy => ?_) (fun hn => absurd ((lt_iff (by omega) (by omega)).mp hn) (Nat.lt_irrefl _))
    generalize hfo : (ks.foldl (fun a b => 31 * a + b) 0 : Int32) = fo
    refine g_iloadN C d20_27 (v := fo) rfl (q := 28) rfl ?_
    refine g_iloadN C d20_28 (v := fo) rfl (q := 29) rfl ?_
    refine g_bipush C d20_29 (z := (16 : Int32)) rfl (q := 31) rfl ?_
    refine g_iushr C d20_31 (q := 32) rfl ?_
    refine g_ixor C d20_32 (q := 33) rfl ?_
    refine g_istoreN C d20_33 (L' := #[.val (.ref b), .val (.int (Int32.ofNat st)), .val (.int (Int32.ofNat (st + ks.length))), .val (.int (fo ^^^ (XT.ushr fo (16 : Int32)))), .val (.int (Int32.ofNat (st + ks.length)))]) rfl (q := 34) rfl ?_
    refine g_iloadN C d20_34 (v := (fo ^^^ (XT.ushr fo (16 : Int32)))) rfl (q := 35) rfl ?_
    refine g_ldcInt C d20_35 (wd145 hw) (q := 37) rfl ?_
    refine g_imul C d20_37 (q := 38) rfl ?_
    refine g_istoreN C d20_38 (L' := #[.val (.ref b), .val (.int (Int32.ofNat st)), .val (.int (Int32.ofNat (st + ks.length))), .val (.int ((fo ^^^ (XT.ushr fo (16 : Int32))) * (-2048144789 : Int32))), .val (.int (Int32.ofNat (st + ks.length)))]) rfl (q := 39) rfl ?_
    refine g_iloadN C d20_39 (v := ((fo ^^^ (XT.ushr fo (16 : Int32))) * (-2048144789 : Int32))) rfl (q := 40) rfl ?_
    refine g_iloadN C d20_40 (v := ((fo ^^^ (XT.ushr fo (16 : Int32))) * (-2048144789 : Int32))) rfl (q := 41) rfl ?_
    refine g_bipush C d20_41 (z := (13 : Int32)) rfl (q := 43) rfl ?_
    refine g_iushr C d20_43 (q := 44) rfl ?_
    refine g_ixor C d20_44 (q := 45) rfl ?_
    refine g_istoreN C d20_45 (L' := #[.val (.ref b), .val (.int (Int32.ofNat st)), .val (.int (Int32.ofNat (st + ks.length))), .val (.int (((fo ^^^ (XT.ushr fo (16 : Int32))) * (-2048144789 : Int32)) ^^^ (XT.ushr ((fo ^^^ (XT.ushr fo (16 : Int32))) * (-2048144789 : Int32)) (13 : Int32)))), .val (.int (Int32.ofNat (st + ks.length)))]) rfl (q := 46) rfl ?_
    refine g_iloadN C d20_46 (v := (((fo ^^^ (XT.ushr fo (16 : Int32))) * (-2048144789 : Int32)) ^^^ (XT.ushr ((fo ^^^ (XT.ushr fo (16 : Int32))) * (-2048144789 : Int32)) (13 : Int32)))) rfl (q := 47) rfl ?_
    refine g_ldcInt C d20_47 (wd146 hw) (q := 49) rfl ?_
    refine g_imul C d20_49 (q := 50) rfl ?_
    refine g_istoreN C d20_50 (L' := #[.val (.ref b), .val (.int (Int32.ofNat st)), .val (.int (Int32.ofNat (st + ks.length))), .val (.int ((((fo ^^^ (XT.ushr fo (16 : Int32))) * (-2048144789 : Int32)) ^^^ (XT.ushr ((fo ^^^ (XT.ushr fo (16 : Int32))) * (-2048144789 : Int32)) (13 : Int32))) * (-1028477387 : Int32))), .val (.int (Int32.ofNat (st + ks.length)))]) rfl (q := 51) rfl ?_
    refine g_iloadN C d20_51 (v := ((((fo ^^^ (XT.ushr fo (16 : Int32))) * (-2048144789 : Int32)) ^^^ (XT.ushr ((fo ^^^ (XT.ushr fo (16 : Int32))) * (-2048144789 : Int32)) (13 : Int32))) * (-1028477387 : Int32))) rfl (q := 52) rfl ?_
    refine g_iloadN C d20_52 (v := ((((fo ^^^ (XT.ushr fo (16 : Int32))) * (-2048144789 : Int32)) ^^^ (XT.ushr ((fo ^^^ (XT.ushr fo (16 : Int32))) * (-2048144789 : Int32)) (13 : Int32))) * (-1028477387 : Int32))) rfl (q := 53) rfl ?_
    refine g_bipush C d20_53 (z := (16 : Int32)) rfl (q := 55) rfl ?_
    refine g_iushr C d20_55 (q := 56) rfl ?_
    refine g_ixor C d20_56 (q := 57) rfl ?_
    refine g_istoreN C d20_57 (L' := #[.val (.ref b), .val (.int (Int32.ofNat st)), .val (.int (Int32.ofNat (st + ks.length))), .val (.int (((((fo ^^^ (XT.ushr fo (16 : Int32))) * (-2048144789 : Int32)) ^^^ (XT.ushr ((fo ^^^ (XT.ushr fo (16 : Int32))) * (-2048144789 : Int32)) (13 : Int32))) * (-1028477387 : Int32)) ^^^ (XT.ushr ((((fo ^^^ (XT.ushr fo (16 : Int32))) * (-2048144789 : Int32)) ^^^ (XT.ushr ((fo ^^^ (XT.ushr fo (16 : Int32))) * (-2048144789 : Int32)) (13 : Int32))) * (-1028477387 : Int32)) (16 : Int32)))), .val (.int (Int32.ofNat (st + ks.length)))]) rfl (q := 58) rfl ?_
    refine g_iloadN C d20_58 (v := (((((fo ^^^ (XT.ushr fo (16 : Int32))) * (-2048144789 : Int32)) ^^^ (XT.ushr ((fo ^^^ (XT.ushr fo (16 : Int32))) * (-2048144789 : Int32)) (13 : Int32))) * (-1028477387 : Int32)) ^^^ (XT.ushr ((((fo ^^^ (XT.ushr fo (16 : Int32))) * (-2048144789 : Int32)) ^^^ (XT.ushr ((fo ^^^ (XT.ushr fo (16 : Int32))) * (-2048144789 : Int32)) (13 : Int32))) * (-1028477387 : Int32)) (16 : Int32)))) rfl (q := 59) rfl ?_
    refine g_ireturn C d20_59 (Nat.le_refl _) (by decide) (by decide) ⟨rfl, by rw [show hs ks = hfin fo from by unfold hs; rw [hfo]]; rfl⟩
  | succ d ih =>
    have ht : t < ks.length := by omega
    refine g_iload C d20_5 (v := (Int32.ofNat (st + t))) rfl (q := 7) rfl ?_
    refine g_iloadN C d20_7 (v := (Int32.ofNat (st + ks.length))) rfl (q := 8) rfl ?_
    refine g_icmp_ge C d20_8 (q' := 27) (q := 11) (by decide) (by decide) rfl (fun hy => absurd ((lt_iff (by omega) (by omega)).mpr (by omega)) hy) (fun hn => ?_)
    refine g_bipush C d20_11 (z := (31 : Int32)) rfl (q := 13) rfl ?_
    refine g_iloadN C d20_13 (v := ((ks.take t).foldl (fun a b => 31 * a + b) 0)) rfl (q := 14) rfl ?_
    refine g_imul C d20_14 (q := 15) rfl ?_
    refine g_aloadN C d20_15 (v := (.ref b)) rfl rfl (q := 16) rfl ?_
    refine g_iload C d20_16 (v := (Int32.ofNat (st + t))) rfl (q := 18) rfl ?_
    refine g_baload C d20_18 (i := (st + t)) B (by omega) rfl (hg t ht) (q := 19) rfl ?_
    refine g_iadd C d20_19 (q := 20) rfl ?_
    refine g_istoreN C d20_20 (L' := #[.val (.ref b), .val (.int (Int32.ofNat st)), .val (.int (Int32.ofNat (st + ks.length))), .val (.int (((31 : Int32) * ((ks.take t).foldl (fun a b => 31 * a + b) 0)) + (ks.getD t 0))), .val (.int (Int32.ofNat (st + t)))]) rfl (q := 21) rfl ?_
    refine g_iinc C d20_21 rfl (L' := #[.val (.ref b), .val (.int (Int32.ofNat st)), .val (.int (Int32.ofNat (st + ks.length))), .val (.int (((31 : Int32) * ((ks.take t).foldl (fun a b => 31 * a + b) 0)) + (ks.getD t 0))), .val (.int ((Int32.ofNat (st + t)) + (1 : Int32)))]) rfl (q := 24) rfl ?_
    refine g_goto C d20_24 (q := 5) (by decide) (by decide) ?_
    rw [of_succ, show st + t + 1 = st + (t + 1) from rfl, show ((31 : Int32) * ((ks.take t).foldl (fun a b => 31 * a + b) 0)) + ks.getD t 0 = ((ks.take (t + 1)).foldl (fun a b => 31 * a + b) 0) from by rw [List.take_succ_eq_append_getElem ht, List.foldl_append]; simp [List.getD, ht]]
    exact ih (t + 1) (by omega) (by omega)
set_option maxRecDepth 65536 in
set_option maxHeartbeats 40000000 in
theorem c_hash (l : Launch) (Z : State) (a0 : Array Value) (G : Gl Z a0) (h0 : Heap) (n0 : Nat) (b : Addr) (L st : Nat) (g : Nat → Value) (ks : List Int32) (B : Av Z h0 b .byte L g) (hL : L ≤ 18) (h6 : ks.length ≤ 6) (hb : st + ks.length ≤ L) (hg : ∀ t, t < ks.length → g (st + t) = .int (ks.getD t 0)) :
    Ctr l Z (⟨"com/example/recordweave/recordweave/store/KeyIndex", "hash", "([BII)I"⟩ : MethodName) prog_1_method_7_code 5 (some .int) rmK0 #[(.ref b), (.int (Int32.ofNat st)), (.int (Int32.ofNat (st + ks.length)))] h0 n0 (fun v h => h0 = h ∧ v = some (.int (hs ks))) := by
  have hw := G.1
  refine Ctr.of (n1 := n0) #[.val (.ref b), .val (.int (Int32.ofNat st)), .val (.int (Int32.ofNat (st + ks.length))), .unset, .unset] (plainFor_of_name pn12) (fun m => by first | (simp [entryFrame, mkF, argsToLocals, Value.category, maxLocals]; done) | rfl) ?_
  intro p e s m below meth c C
  refine g_iconst C d20_0 (z := (0 : Int32)) rfl (q := 1) rfl ?_
  refine g_istoreN C d20_1 (L' := #[.val (.ref b), .val (.int (Int32.ofNat st)), .val (.int (Int32.ofNat (st + ks.length))), .val (.int (0 : Int32)), .unset]) rfl (q := 2) rfl ?_
  refine g_iloadN C d20_2 (v := (Int32.ofNat st)) rfl (q := 3) rfl ?_
  refine g_istore C d20_3 (L' := #[.val (.ref b), .val (.int (Int32.ofNat st)), .val (.int (Int32.ofNat (st + ks.length))), .val (.int (0 : Int32)), .val (.int (Int32.ofNat st))]) rfl (q := 5) rfl ?_
  exact loopH l Z a0 G h0 n0 b L st g ks B hL h6 hb hg C ks.length 0 (by omega) (by omega)
set_option maxRecDepth 65536 in
set_option maxHeartbeats 40000000 in
theorem loopM {p : Program} {e : Env} {s : State} {m : MethodId} {args : Array Value} {below : List Frame} {meth : Method} {c : Code} (l : Launch) (Z : State) (a0 : Array Value) (G : Gl Z a0) (h0 : Heap) (n0 : Nat) (b1 : Addr) (L1 s1 : Nat) (g1 : Nat → Value) (k1 : List Int32) (B1 : Av Z h0 b1 .byte L1 g1) (hL1 : L1 ≤ 18) (h61 : k1.length ≤ 6) (hb1 : s1 + k1.length ≤ L1) (hg1 : ∀ t, t < k1.length → g1 (s1 + t) = .int (k1.getD t 0)) (b2 : Addr) (L2 s2 : Nat) (g2 : Nat → Value) (k2 : List Int32) (B2 : Av Z h0 b2 .byte L2 g2) (hL2 : L2 ≤ 18) (h62 : k2.length ≤ 6) (hb2 : s2 + k2.length ≤ L2) (hg2 : ∀ t, t < k2.length → g2 (s2 + t) = .int (k2.getD t 0)) (h12 : k1.length = k2.length) (C : Cx p s m meth c Z "jdk/internal/util/ArraysSupport" "mismatch" jdk_48_method_14_code 8 (some .int)) (d t : Nat) (hd : d = k1.length - t) (ht : t ≤ k1.length) (he : ∀ j, j < t → k1.getD j 0 = k2.getD j 0) :
    Go p l e rmK0 s m args below meth c (FinN s below rmK0 n0 (fun v h => h0 = h ∧ ((v = some (.int (-1)) ∧ ∀ t, t < k1.length → k1.getD t 0 = k2.getD t 0) ∨ ∃ i, i < k1.length ∧ v = some (.int (Int32.ofNat i)) ∧ ¬ k1.getD i 0 = k2.getD i 0))) n0 h0 0 0 70 #[.val (.ref b1), .val (.int (Int32.ofNat s1)), .val (.ref b2), .val (.int (Int32.ofNat s2)), .val (.int (Int32.ofNat k1.length)), .val (.int (Int32.ofNat t)), .unset, .unset] [] := by
  have hw := G.1
  induction d generalizing t with
  | zero =>
    obtain rfl : t = k1.length := by omega
    refine g_iload C d37_70 (v := (Int32.ofNat k1.length)) rfl (q := 72) rfl ?_
    refine g_iload C d37_72 (v := (Int32.ofNat k1.length)) rfl (q := 74) rfl ?_
    refine g_icmp_ge C d37_74 (q' := 101) (q := 77) (by decide) (by decide) rfl (fun hy => ?_) (fun hn => absurd ((lt_iff (by omega) (by omega)).mp hn) (Nat.lt_irrefl _))
    refine g_iconst C d37_101 (z := (-1 : Int32)) rfl (q := 102) rfl ?_
    refine g_ireturn C d37_102 (Nat.le_refl _) (by decide) (by decide) ⟨rfl, Or.inl ⟨rfl, he⟩⟩
  | succ d ih =>
    have ht : t < k1.length := by omega
    refine g_iload C d37_70 (v := (Int32.ofNat t)) rfl (q := 72) rfl ?_
    refine g_iload C d37_72 (v := (Int32.ofNat k1.length)) rfl (q := 74) rfl ?_
    refine g_icmp_ge C d37_74 (q' := 101) (q := 77) (by decide) (by decide) rfl (fun hy => absurd ((lt_iff (by omega) (by omega)).mpr ht) hy) (fun hn => ?_)
    refine g_aloadN C d37_77 (v := (.ref b1)) rfl rfl (q := 78) rfl ?_
    refine g_iloadN C d37_78 (v := (Int32.ofNat s1)) rfl (q := 79) rfl ?_
    refine g_iload C d37_79 (v := (Int32.ofNat t)) rfl (q := 81) rfl ?_
    refine g_iadd C d37_81 (q := 82) rfl ?_
    rw [of_add]
    refine g_baload C d37_82 (i := (s1 + t)) B1 (by omega) rfl (hg1 t ht) (q := 83) rfl ?_
    refine g_aloadN C d37_83 (v := (.ref b2)) rfl rfl (q := 84) rfl ?_
    refine g_iloadN C d37_84 (v := (Int32.ofNat s2)) rfl (q := 85) rfl ?_
    refine g_iload C d37_85 (v := (Int32.ofNat t)) rfl (q := 87) rfl ?_
    refine g_iadd C d37_87 (q := 88) rfl ?_
    rw [of_add]
    refine g_baload C d37_88 (i := (s2 + t)) B2 (by omega) rfl (hg2 t (by omega)) (q := 89) rfl ?_
    refine g_icmp_eq C d37_89 (q' := 95) (q := 92) (by decide) (by decide) rfl (fun q1 => ?_) (fun q1 => ?_)
    ·
      refine g_iinc C d37_95 rfl (L' := #[.val (.ref b1), .val (.int (Int32.ofNat s1)), .val (.ref b2), .val (.int (Int32.ofNat s2)), .val (.int (Int32.ofNat k1.length)), .val (.int ((Int32.ofNat t) + (1 : Int32))), .unset, .unset]) rfl (q := 98) rfl ?_
      refine g_goto C d37_98 (q := 70) (by decide) (by decide) ?_
      rw [of_succ]
      exact ih (t + 1) (by omega) (by omega) (fun j hj => by
        by_cases e1 : j = t
        · rw [e1]; exact q1
        · exact he j (by omega))
    ·
      refine g_iload C d37_92 (v := (Int32.ofNat t)) rfl (q := 94) rfl ?_
      refine g_ireturn C d37_94 (Nat.le_refl _) (by decide) (by decide) ⟨rfl, Or.inr ⟨t, ht, rfl, q1⟩⟩
set_option maxRecDepth 65536 in
set_option maxHeartbeats 40000000 in
theorem c_mism (l : Launch) (Z : State) (a0 : Array Value) (G : Gl Z a0) (h0 : Heap) (n0 : Nat) (b1 : Addr) (L1 s1 : Nat) (g1 : Nat → Value) (k1 : List Int32) (B1 : Av Z h0 b1 .byte L1 g1) (hL1 : L1 ≤ 18) (h61 : k1.length ≤ 6) (hb1 : s1 + k1.length ≤ L1) (hg1 : ∀ t, t < k1.length → g1 (s1 + t) = .int (k1.getD t 0)) (b2 : Addr) (L2 s2 : Nat) (g2 : Nat → Value) (k2 : List Int32) (B2 : Av Z h0 b2 .byte L2 g2) (hL2 : L2 ≤ 18) (h62 : k2.length ≤ 6) (hb2 : s2 + k2.length ≤ L2) (hg2 : ∀ t, t < k2.length → g2 (s2 + t) = .int (k2.getD t 0)) (h12 : k1.length = k2.length) :
    Ctr l Z (⟨"jdk/internal/util/ArraysSupport", "mismatch", "([BI[BII)I"⟩ : MethodName) jdk_48_method_14_code 8 (some .int) rmK0 #[(.ref b1), (.int (Int32.ofNat s1)), (.ref b2), (.int (Int32.ofNat s2)), (.int (Int32.ofNat k1.length))] h0 n0 (fun v h => h0 = h ∧ ((v = some (.int (-1)) ∧ ∀ t, t < k1.length → k1.getD t 0 = k2.getD t 0) ∨ ∃ i, i < k1.length ∧ v = some (.int (Int32.ofNat i)) ∧ ¬ k1.getD i 0 = k2.getD i 0)) := by
  have hw := G.1
  refine Ctr.of (n1 := n0) #[.val (.ref b1), .val (.int (Int32.ofNat s1)), .val (.ref b2), .val (.int (Int32.ofNat s2)), .val (.int (Int32.ofNat k1.length)), .unset, .unset, .unset] (plainFor_of_name pn13) (fun m => by first | (simp [entryFrame, mkF, argsToLocals, Value.category, maxLocals]; done) | rfl) ?_
  intro p e s m below meth c C
  refine g_iconst C d37_0 (z := (0 : Int32)) rfl (q := 1) rfl ?_
  refine g_istore C d37_1 (L' := #[.val (.ref b1), .val (.int (Int32.ofNat s1)), .val (.ref b2), .val (.int (Int32.ofNat s2)), .val (.int (Int32.ofNat k1.length)), .val (.int (0 : Int32)), .unset, .unset]) rfl (q := 3) rfl ?_
  refine g_iload C d37_3 (v := (Int32.ofNat k1.length)) rfl (q := 5) rfl ?_
  refine g_bipush C d37_5 (z := (7 : Int32)) rfl (q := 7) rfl ?_
  refine g_icmp_le C d37_7 (q' := 70) (q := 10) (by decide) (by decide) rfl (fun hy => ?_) (fun hn => absurd ((lt_iff (a := 7) (by decide) (by omega)).mp hn) (by omega))
  exact loopM l Z a0 G h0 n0 b1 L1 s1 g1 k1 B1 hL1 h61 hb1 hg1 b2 L2 s2 g2 k2 B2 hL2 h62 hb2 hg2 h12 C k1.length 0 (by omega) (by omega) (fun j hj => absurd hj (by omega))
set_option maxRecDepth 65536 in
set_option maxHeartbeats 40000000 in
theorem c_rchk (l : Launch) (Z : State) (a0 : Array Value) (G : Gl Z a0) (i j n : Nat) (h1 : i ≤ j) (h2 : j ≤ n) (h3 : n ≤ 18) (h0 : Heap) (n0 : Nat) :
    Ctr l Z (⟨"java/util/Arrays", "rangeCheck", "(III)V"⟩ : MethodName) jdk_65_method_30_code 3 none rmK0 #[(.int (Int32.ofNat n)), (.int (Int32.ofNat i)), (.int (Int32.ofNat j))] h0 n0 (fun v h => h0 = h ∧ v = none) := by
  have hw := G.1
  refine Ctr.of (n1 := n0) #[.val (.int (Int32.ofNat n)), .val (.int (Int32.ofNat i)), .val (.int (Int32.ofNat j))] (plainFor_of_name pn5) (fun m => by first | (simp [entryFrame, mkF, argsToLocals, Value.category, maxLocals]; done) | rfl) ?_
  intro p e s m below meth c C
  refine g_iloadN C d36_0 (v := (Int32.ofNat i)) rfl (q := 1) rfl ?_
  refine g_iloadN C d36_1 (v := (Int32.ofNat j)) rfl (q := 2) rfl ?_
  refine g_icmp_le C d36_2 (q' := 46) (q := 5) (by decide) (by decide) rfl (fun hy => ?_) (fun hn => absurd ((lt_iff (by omega) (by omega)).mp hn) (by omega))
  refine g_iloadN C d36_46 (v := (Int32.ofNat i)) rfl (q := 47) rfl ?_
  refine g_if_ge C d36_47 (q' := 59) (q := 50) (by decide) (by decide) rfl (fun hy => ?_) (fun hn => absurd hn (nn32 (by omega)))
  refine g_iloadN C d36_59 (v := (Int32.ofNat j)) rfl (q := 60) rfl ?_
  refine g_iloadN C d36_60 (v := (Int32.ofNat n)) rfl (q := 61) rfl ?_
  refine g_icmp_le C d36_61 (q' := 73) (q := 64) (by decide) (by decide) rfl (fun hy => ?_) (fun hn => absurd ((lt_iff (by omega) (by omega)).mp hn) (by omega))
  refine g_return C d36_73 (Nat.le_refl _) (by decide) (by decide) ⟨rfl, rfl⟩
set_option maxRecDepth 65536 in
set_option maxHeartbeats 40000000 in
theorem c_aeq (l : Launch) (Z : State) (a0 : Array Value) (G : Gl Z a0) (h0 : Heap) (n0 : Nat) (b1 : Addr) (L1 s1 : Nat) (g1 : Nat → Value) (k1 : List Int32) (B1 : Av Z h0 b1 .byte L1 g1) (hL1 : L1 ≤ 18) (h61 : k1.length ≤ 6) (hb1 : s1 + k1.length ≤ L1) (hg1 : ∀ t, t < k1.length → g1 (s1 + t) = .int (k1.getD t 0)) (b2 : Addr) (L2 s2 : Nat) (g2 : Nat → Value) (k2 : List Int32) (B2 : Av Z h0 b2 .byte L2 g2) (hL2 : L2 ≤ 18) (h62 : k2.length ≤ 6) (hb2 : s2 + k2.length ≤ L2) (hg2 : ∀ t, t < k2.length → g2 (s2 + t) = .int (k2.getD t 0)) :
    Ctr l Z (⟨"java/util/Arrays", "equals", "([BII[BII)Z"⟩ : MethodName) jdk_65_method_90_code 8 (some .boolean) rmK1 #[(.ref b1), (.int (Int32.ofNat s1)), (.int (Int32.ofNat (s1 + k1.length))), (.ref b2), (.int (Int32.ofNat s2)), (.int (Int32.ofNat (s2 + k2.length)))] h0 n0 (fun v h => h0 = h ∧ ∃ r, v = some (.int r) ∧ AN (k1 = k2) r) := by
  have hw := G.1
  have e1 : Int32.ofNat (s1 + k1.length) - Int32.ofNat s1 = Int32.ofNat k1.length := by rw [of_sub (by omega), Nat.add_sub_cancel_left]
  have e2 : Int32.ofNat (s2 + k2.length) - Int32.ofNat s2 = Int32.ofNat k2.length := by rw [of_sub (by omega), Nat.add_sub_cancel_left]
  refine Ctr.of (n1 := n0) #[.val (.ref b1), .val (.int (Int32.ofNat s1)), .val (.int (Int32.ofNat (s1 + k1.length))), .val (.ref b2), .val (.int (Int32.ofNat s2)), .val (.int (Int32.ofNat (s2 + k2.length))), .unset, .unset] (plainFor_of_name pn5) (fun m => by first | (simp [entryFrame, mkF, argsToLocals, Value.category, maxLocals]; done) | rfl) ?_
  intro p e s m below meth c C
  refine g_aloadN C d35_0 (v := (.ref b1)) rfl rfl (q := 1) rfl ?_
  refine g_alen C d35_1 B1 (z := (Int32.ofNat L1)) rfl (q := 2) rfl ?_
  refine g_iloadN C d35_2 (v := (Int32.ofNat s1)) rfl (q := 3) rfl ?_
  refine g_iloadN C d35_3 (v := (Int32.ofNat (s1 + k1.length))) rfl (q := 4) rfl ?_
  refine g_callS C (W := 0) (argsL := [(.int (Int32.ofNat L1)), (.int (Int32.ofNat s1)), (.int (Int32.ofNat (s1 + k1.length)))]) (rest := []) d35_4 (wd256 hw) (wd257 hw) (wd254 hw) (wd258 hw) (by decide) (Ctr.bk (c_rchk l Z a0 G s1 (s1 + k1.length) L1 (by omega) hb1 hL1 h0 n0) C (wd258 hw) (wd254 hw) (by decide) (by decide)) (by decide) (by decide) rfl (lenOf pd26 rfl) rfl rfl (q := 7) rfl (fun v1 h1 hQ1 => ?_)
  obtain ⟨rfl, rfl⟩ := hQ1
  refine ⟨[], rfl, ?_⟩
  refine g_aloadN C d35_7 (v := (.ref b2)) rfl rfl (q := 8) rfl ?_
  refine g_alen C d35_8 B2 (z := (Int32.ofNat L2)) rfl (q := 9) rfl ?_
  refine g_iload C d35_9 (v := (Int32.ofNat s2)) rfl (q := 11) rfl ?_
  refine g_iload C d35_11 (v := (Int32.ofNat (s2 + k2.length))) rfl (q := 13) rfl ?_
  refine g_callS C (W := 0) (argsL := [(.int (Int32.ofNat L2)), (.int (Int32.ofNat s2)), (.int (Int32.ofNat (s2 + k2.length)))]) (rest := []) d35_13 (wd256 hw) (wd257 hw) (wd254 hw) (wd258 hw) (by decide) (Ctr.bk (c_rchk l Z a0 G s2 (s2 + k2.length) L2 (by omega) hb2 hL2 h0 n0) C (wd258 hw) (wd254 hw) (by decide) (by decide)) (by decide) (by decide) rfl (lenOf pd26 rfl) rfl rfl (q := 16) rfl (fun v1 h1 hQ1 => ?_)
  obtain ⟨rfl, rfl⟩ := hQ1
  refine ⟨[], rfl, ?_⟩
  refine g_iloadN C d35_16 (v := (Int32.ofNat (s1 + k1.length))) rfl (q := 17) rfl ?_
  refine g_iloadN C d35_17 (v := (Int32.ofNat s1)) rfl (q := 18) rfl ?_
  refine g_isub C d35_18 (q := 19) rfl ?_
  rw [e1]
  refine g_istore C d35_19 (L' := #[.val (.ref b1), .val (.int (Int32.ofNat s1)), .val (.int (Int32.ofNat (s1 + k1.length))), .val (.ref b2), .val (.int (Int32.ofNat s2)), .val (.int (Int32.ofNat (s2 + k2.length))), .val (.int (Int32.ofNat k1.length)), .unset]) rfl (q := 21) rfl ?_
  refine g_iload C d35_21 (v := (Int32.ofNat (s2 + k2.length))) rfl (q := 23) rfl ?_
  refine g_iload C d35_23 (v := (Int32.ofNat s2)) rfl (q := 25) rfl ?_
  refine g_isub C d35_25 (q := 26) rfl ?_
  rw [e2]
  refine g_istore C d35_26 (L' := #[.val (.ref b1), .val (.int (Int32.ofNat s1)), .val (.int (Int32.ofNat (s1 + k1.length))), .val (.ref b2), .val (.int (Int32.ofNat s2)), .val (.int (Int32.ofNat (s2 + k2.length))), .val (.int (Int32.ofNat k1.length)), .val (.int (Int32.ofNat k2.length))]) rfl (q := 28) rfl ?_
  refine g_iload C d35_28 (v := (Int32.ofNat k1.length)) rfl (q := 30) rfl ?_
  refine g_iload C d35_30 (v := (Int32.ofNat k2.length)) rfl (q := 32) rfl ?_
  refine g_icmp_eq C d35_32 (q' := 37) (q := 35) (by decide) (by decide) rfl (fun q1 => ?_) (fun q1 => ?_)
  ·
    have h12 : k1.length = k2.length := of_inj (by omega) (by omega) q1
    refine g_aloadN C d35_37 (v := (.ref b1)) rfl rfl (q := 38) rfl ?_
    refine g_iloadN C d35_38 (v := (Int32.ofNat s1)) rfl (q := 39) rfl ?_
    refine g_aloadN C d35_39 (v := (.ref b2)) rfl rfl (q := 40) rfl ?_
    refine g_iload C d35_40 (v := (Int32.ofNat s2)) rfl (q := 42) rfl ?_
    refine g_iload C d35_42 (v := (Int32.ofNat k1.length)) rfl (q := 44) rfl ?_
    refine g_callS C (W := 0) (argsL := [(.ref b1), (.int (Int32.ofNat s1)), (.ref b2), (.int (Int32.ofNat s2)), (.int (Int32.ofNat k1.length))]) (rest := []) d35_44 (wd259 hw) (wd260 hw) (wd261 hw) (wd262 hw) (by decide) (Ctr.bk (c_mism l Z a0 G h0 n0 b1 L1 s1 g1 k1 B1 hL1 h61 hb1 hg1 b2 L2 s2 g2 k2 B2 hL2 h62 hb2 hg2 h12) C (wd262 hw) (wd261 hw) (by decide) (by decide)) (by decide) (by decide) rfl (lenOf pd27 rfl) rfl rfl (q := 47) rfl (fun v1 h1 hQ1 => ?_)
    obtain ⟨rfl, hQ'⟩ := hQ1
    rcases hQ' with ⟨rfl, he⟩ | ⟨i, hi, rfl, hne⟩
    ·
      refine ⟨[(.int (-1 : Int32))], rfl, ?_⟩
      refine g_if_ge C d35_47 (q' := 54) (q := 50) (by decide) (by decide) rfl (fun hy => absurd (by decide) hy) (fun hn => ?_)
      refine g_iconst C d35_50 (z := (1 : Int32)) rfl (q := 51) rfl ?_
      refine g_goto C d35_51 (q := 55) (by decide) (by decide) ?_
      refine g_nreturn C d35_55 (by simp) (z := 1) rfl (Nat.le_refl _) (by decide) (by decide) ⟨rfl, _, rfl, Or.inl ⟨List.ext_getElem h12 (fun j h1 h2 => by have := he j h1; simpa [List.getD, h1, h2] using this), rfl⟩⟩
    ·
      refine ⟨[(.int (Int32.ofNat i))], rfl, ?_⟩
      refine g_if_ge C d35_47 (q' := 54) (q := 50) (by decide) (by decide) rfl (fun hy => ?_) (fun hn => absurd hn (nn32 (by omega)))
      refine g_iconst C d35_54 (z := (0 : Int32)) rfl (q := 55) rfl ?_
      refine g_nreturn C d35_55 (by simp) (z := 0) rfl (Nat.le_refl _) (by decide) (by decide) ⟨rfl, _, rfl, Or.inr ⟨fun q => hne (by rw [q]), rfl⟩⟩
  ·
    refine g_iconst C d35_35 (z := (0 : Int32)) rfl (q := 36) rfl ?_
    refine g_nreturn C d35_36 (by simp) (z := 0) rfl (Nat.le_refl _) (by decide) (by decide) ⟨rfl, _, rfl, Or.inr ⟨fun q => q1 (by rw [q]), rfl⟩⟩
set_option maxRecDepth 65536 in
set_option maxHeartbeats 40000000 in
theorem loopF {p : Program} {e : Env} {s : State} {m : MethodId} {args : Array Value} {below : List Frame} {meth : Method} {c : Code} (l : Launch) (Z : State) (a0 : Array Value) (G : Gl Z a0) (h0 : Heap) (n0 : Nat) (A : Nat → Addr) (mm : Nat) (mc : Int32) (hd : HD) (T sf Lb : Nat → Nat) (cb : Nat → Nat → Value) (X : KX Z h0 A mm mc hd T sf Lb cb) (b : Addr) (L st : Nat) (g : Nat → Value) (ks : List Int32) (B : Av Z h0 b .byte L g) (hL : L ≤ 18) (h6 : ks.length ≤ 6) (hb : st + ks.length ≤ L) (hg : ∀ t, t < ks.length → g (st + t) = .int (ks.getD t 0)) (C : Cx p s m meth c Z "com/example/recordweave/recordweave/store/KeyIndex" "find" prog_1_method_4_code 8 (some .int)) (d pl : Nat) (s6 s7 : Slot) (hpl : pl < 2048) (hz : T ((pl + d) % 2048) = 0) (hs6 : s6 = .unset ∨ ∃ x, s6 = .val (.int x)) (hs7 : s7 = .unset ∨ ∃ x, s7 = .val (.ref x)) :
    Go p l e rmK3 s m args below meth c (FinN s below rmK3 n0 (fun v h => h0 = h ∧ v = some (.int (fnd T hd ks (d + 1) pl)))) n0 h0 0 0 20 #[.val (.ref (A 0)), .val (.ref b), .val (.int (Int32.ofNat st)), .val (.int (Int32.ofNat (st + ks.length))), .val (.int (2047 : Int32)), .val (.int (Int32.ofNat pl)), s6, s7] [] := by
  have hw := G.1
  have X0_ := X
  obtain ⟨F, FA, BO, ⟨f3, B3, p3⟩, ⟨f4, B4, p4⟩, ⟨f5, B5, p5⟩, BT, BF, hI, hn6, hm2, hLb, hK, hD, hJ⟩ := X
  induction d generalizing pl s6 s7 with
  | zero =>
    have t0 : T pl = 0 := by rw [show (pl + 0) % 2048 = pl by omega] at hz; exact hz
    refine g_aloadN C d19_20 (v := (.ref (A 0))) rfl rfl (q := 21) rfl ?_
    refine g_getf C d19_21 (host := "") (Or.inl (wd92 hw)) Via.refl F.2.2.2.2.2.2 (q := 24) rfl ?_
    refine g_iload C d19_24 (v := (Int32.ofNat pl)) rfl (q := 26) rfl ?_
    refine g_iaload C d19_26 (i := pl) BT hpl rfl (by rw [t0]) (q := 27) rfl ?_
    refine g_if_eq C d19_27 (q' := 102) (q := 30) (by decide) (by decide) rfl (fun hy => ?_) (fun hn => absurd rfl hn)
    refine g_iconst C d19_102 (z := (-1 : Int32)) rfl (q := 103) rfl ?_
    refine g_ireturn C d19_103 (Nat.le_refl _) (by decide) (by decide) ⟨rfl, by simp only [fnd, if_pos t0]⟩
  | succ d ih =>
    refine g_aloadN C d19_20 (v := (.ref (A 0))) rfl rfl (q := 21) rfl ?_
    refine g_getf C d19_21 (host := "") (Or.inl (wd92 hw)) Via.refl F.2.2.2.2.2.2 (q := 24) rfl ?_
    refine g_iload C d19_24 (v := (Int32.ofNat pl)) rfl (q := 26) rfl ?_
    refine g_iaload C d19_26 (i := pl) BT hpl rfl rfl (q := 27) rfl ?_
    have tle := hI.1 pl hpl
    refine g_if_eq C d19_27 (q' := 102) (q := 30) (by decide) (by decide) rfl (fun q1 => ?_) (fun q1 => ?_)
    ·
      have t0 : T pl = 0 := of_inj (n := 0) (by omega) (by decide) q1
      refine g_iconst C d19_102 (z := (-1 : Int32)) rfl (q := 103) rfl ?_
      refine g_ireturn C d19_103 (Nat.le_refl _) (by decide) (by decide) ⟨rfl, by simp only [fnd, if_pos t0]⟩
    ·
      have t0 : ¬ T pl = 0 := fun q => q1 (by rw [q]; rfl)
      have e1 : Int32.ofNat (T pl) - 1 = Int32.ofNat (T pl - 1) := of_sub (k := 1) (by omega)
      obtain ⟨q, hq⟩ : ∃ q, q = T pl - 1 := ⟨_, rfl⟩
      have hql : q < hd.length := by omega
      obtain ⟨kf, ke, k6, kc⟩ := hK q hql
      have Lq := hLb _ kf
      refine g_aloadN C d19_30 (v := (.ref (A 0))) rfl rfl (q := 31) rfl ?_
      refine g_getf C d19_31 (host := "") (Or.inl (wd92 hw)) Via.refl F.2.2.2.2.2.2 (q := 34) rfl ?_
      refine g_iload C d19_34 (v := (Int32.ofNat pl)) rfl (q := 36) rfl ?_
      refine g_iaload C d19_36 (i := pl) BT hpl rfl rfl (q := 37) rfl ?_
      refine g_iconst C d19_37 (z := (1 : Int32)) rfl (q := 38) rfl ?_
      refine g_isub C d19_38 (q := 39) rfl ?_
      rw [e1, ← hq]
      have stQ : ∀ v, storeLocals #[.val (.ref (A 0)), .val (.ref b), .val (.int (Int32.ofNat st)), .val (.int (Int32.ofNat (st + ks.length))), .val (.int (2047 : Int32)), .val (.int (Int32.ofNat pl)), s6, s7] 6 (.int v) = some #[.val (.ref (A 0)), .val (.ref b), .val (.int (Int32.ofNat st)), .val (.int (Int32.ofNat (st + ks.length))), .val (.int (2047 : Int32)), .val (.int (Int32.ofNat pl)), .val (.int v), s7] := fun v => by rcases hs6 with rfl | ⟨x, rfl⟩ <;> rfl
      refine g_istore C d19_39 (L' := #[.val (.ref (A 0)), .val (.ref b), .val (.int (Int32.ofNat st)), .val (.int (Int32.ofNat (st + ks.length))), .val (.int (2047 : Int32)), .val (.int (Int32.ofNat pl)), .val (.int (Int32.ofNat q)), s7]) (stQ _) (q := 41) rfl ?_
      refine g_aloadN C d19_41 (v := (.ref (A 0))) rfl rfl (q := 42) rfl ?_
      refine g_getf C d19_42 (host := "") (Or.inl (wd83 hw)) Via.refl F.2.1 (q := 45) rfl ?_
      refine g_aloadN C d19_45 (v := (.ref (A 0))) rfl rfl (q := 46) rfl ?_
      refine g_getf C d19_46 (host := "") (Or.inl (wd86 hw)) Via.refl F.2.2.1 (q := 49) rfl ?_
      refine g_iload C d19_49 (v := (Int32.ofNat q)) rfl (q := 51) rfl ?_
      refine g_iaload C d19_51 (i := q) B3 (by omega) rfl (p3 q hql) (q := 52) rfl ?_
      refine g_callF C (W := 0) (argsL := [(.int (Int32.ofNat (flx hd q)))]) (rest := []) (a := (A 1)) d19_52 (wd216 hw) (wd217 hw) (wd218 hw) (wd219 hw) (wd220 hw) (wd221 hw) (wd222 hw) (wd46 hw) (by first | rfl | simp [Cond.onTables, Cond.keepsFace, Cond.keeps, Cond.steady]) (by decide) FA.1 (Ctr.bk (c_get l Z a0 G (A 1) (A 2) (A (7 + flx hd q)) _ mm 10 (flx hd q) _ h0 n0 FA BO.av kf (by omega) (by decide) (if_pos kf)) C (wd223 hw) (wd15 hw) (by decide) (by decide)) (by decide) (by decide) rfl (lenOf pd24 rfl) rfl rfl (q := 57) rfl (fun v1 h1 hQ1 => ?_)
      obtain ⟨rfl, rfl⟩ := hQ1
      refine ⟨[(.ref (A (7 + flx hd q)))], rfl, ?_⟩
      refine g_castY C d19_57 (wd237 hw) (Ins.self (BF _ kf).1) (q := 60) rfl ?_
      have stR : ∀ v_ : Addr, storeLocals #[.val (.ref (A 0)), .val (.ref b), .val (.int (Int32.ofNat st)), .val (.int (Int32.ofNat (st + ks.length))), .val (.int (2047 : Int32)), .val (.int (Int32.ofNat pl)), .val (.int (Int32.ofNat q)), s7] 7 (.ref v_) = some #[.val (.ref (A 0)), .val (.ref b), .val (.int (Int32.ofNat st)), .val (.int (Int32.ofNat (st + ks.length))), .val (.int (2047 : Int32)), .val (.int (Int32.ofNat pl)), .val (.int (Int32.ofNat q)), .val (.ref v_)] := fun v_ => by rcases hs7 with rfl | ⟨x, rfl⟩ <;> rfl
      refine g_astore C d19_60 rfl (L' := #[.val (.ref (A 0)), .val (.ref b), .val (.int (Int32.ofNat st)), .val (.int (Int32.ofNat (st + ks.length))), .val (.int (2047 : Int32)), .val (.int (Int32.ofNat pl)), .val (.int (Int32.ofNat q)), .val (.ref (A (7 + flx hd q)))]) (stR _) (q := 62) rfl ?_
      refine g_aload C d19_62 (v := (.ref (A (7 + flx hd q)))) rfl rfl (q := 64) rfl ?_
      refine g_aloadN C d19_64 (v := (.ref (A 0))) rfl rfl (q := 65) rfl ?_
      refine g_getf C d19_65 (host := "") (Or.inl (wd88 hw)) Via.refl F.2.2.2.1 (q := 68) rfl ?_
      refine g_iload C d19_68 (v := (Int32.ofNat q)) rfl (q := 70) rfl ?_
      refine g_iaload C d19_70 (i := q) B4 (by omega) rfl (p4 q hql) (q := 71) rfl ?_
      refine g_aloadN C d19_71 (v := (.ref (A 0))) rfl rfl (q := 72) rfl ?_
      refine g_getf C d19_72 (host := "") (Or.inl (wd90 hw)) Via.refl F.2.2.2.2.1 (q := 75) rfl ?_
      refine g_iload C d19_75 (v := (Int32.ofNat q)) rfl (q := 77) rfl ?_
      refine g_iaload C d19_77 (i := q) B5 (by omega) rfl (p5 q hql) (q := 78) rfl ?_
      refine g_aloadN C d19_78 (v := (.ref b)) rfl rfl (q := 79) rfl ?_
      refine g_iloadN C d19_79 (v := (Int32.ofNat st)) rfl (q := 80) rfl ?_
      refine g_iloadN C d19_80 (v := (Int32.ofNat (st + ks.length))) rfl (q := 81) rfl ?_
      refine g_callS C (W := 0) (argsL := [(.ref (A (7 + flx hd q))), (.int (Int32.ofNat (sf q))), (.int (Int32.ofNat (sf q + (kyx hd q).length))), (.ref b), (.int (Int32.ofNat st)), (.int (Int32.ofNat (st + ks.length)))]) (rest := []) d19_81 (wd252 hw) (wd253 hw) (wd254 hw) (wd255 hw) (by decide) (Ctr.bk (c_aeq l Z a0 G h0 n0 (A (7 + flx hd q)) _ (sf q) _ (kyx hd q) (BF _ kf).2 Lq k6 ke kc b L st g ks B hL h6 hb hg) C (wd255 hw) (wd254 hw) (by decide) (by decide)) (by decide) (by decide) rfl (lenOf pd28 rfl) rfl rfl (q := 84) rfl (fun v1 h1 hQ1 => ?_)
      obtain ⟨rfl, r, rfl, hA⟩ := hQ1
      refine ⟨[(.int r)], rfl, ?_⟩
      rcases hA with ⟨ek, rfl⟩ | ⟨ek, rfl⟩
      ·
        refine g_if_eq C d19_84 (q' := 90) (q := 87) (by decide) (by decide) rfl (fun hy => absurd hy (by decide)) (fun hn => ?_)
        refine g_iload C d19_87 (v := (Int32.ofNat q)) rfl (q := 89) rfl ?_
        refine g_ireturn C d19_89 (Nat.le_refl _) (by decide) (by decide) ⟨rfl, by simp only [fnd, if_neg t0]; rw [← hq, if_pos ek]⟩
      ·
        refine g_if_eq C d19_84 (q' := 90) (q := 87) (by decide) (by decide) rfl (fun hy => ?_) (fun hn => absurd rfl hn)
        refine g_iload C d19_90 (v := (Int32.ofNat pl)) rfl (q := 92) rfl ?_
        refine g_iconst C d19_92 (z := (1 : Int32)) rfl (q := 93) rfl ?_
        refine g_iadd C d19_93 (q := 94) rfl ?_
        refine g_iload C d19_94 (v := (2047 : Int32)) rfl (q := 96) rfl ?_
        refine g_iand C d19_96 (q := 97) rfl ?_
        rw [nx pl hpl]
        refine g_istore C d19_97 (L' := #[.val (.ref (A 0)), .val (.ref b), .val (.int (Int32.ofNat st)), .val (.int (Int32.ofNat (st + ks.length))), .val (.int (2047 : Int32)), .val (.int (Int32.ofNat ((pl + 1) % 2048))), .val (.int (Int32.ofNat q)), .val (.ref (A (7 + flx hd q)))]) rfl (q := 99) rfl ?_
        refine g_goto C d19_99 (q := 20) (by decide) (by decide) ?_
        rw [show fnd T hd ks (d + 1 + 1) pl = fnd T hd ks (d + 1) ((pl + 1) % 2048) from by simp only [fnd, if_neg t0]; rw [← hq, if_neg ek]]
        exact ih ((pl + 1) % 2048) _ _ (Nat.mod_lt _ (by decide)) (by rw [show ((pl + 1) % 2048 + d) % 2048 = (pl + (d + 1)) % 2048 by omega]; exact hz) (Or.inr ⟨_, rfl⟩) (Or.inr ⟨_, rfl⟩)
theorem Go.imp {p : Program} {l : Launch} {e : Env} {R : Room} {s : State} {m : MethodId} {args : Array Value} {below : List Frame} {meth : Method} {c : Code} {Ph Ph' : State → Option Value → Prop} {n0 : Nat} {h : Heap} {k n pc : Nat} {Ls : Array Slot} {st : List Value} (K : Go p l e R s m args below meth c Ph n0 h k n pc Ls st) (H : ∀ s₂ v, Ph s₂ v → Ph' s₂ v) : Go p l e R s m args below meth c Ph' n0 h k n pc Ls st := fun T locs X N eT => by
  obtain ⟨s₂, v, S, r⟩ := K T locs X N eT
  exact ⟨s₂, v, S, H _ _ r⟩
set_option maxRecDepth 65536 in
set_option maxHeartbeats 40000000 in
theorem c_find (l : Launch) (Z : State) (a0 : Array Value) (G : Gl Z a0) (h0 : Heap) (n0 : Nat) (A : Nat → Addr) (mm : Nat) (mc : Int32) (hd : HD) (T sf Lb : Nat → Nat) (cb : Nat → Nat → Value) (X : KX Z h0 A mm mc hd T sf Lb cb) (b : Addr) (L st : Nat) (g : Nat → Value) (ks : List Int32) (B : Av Z h0 b .byte L g) (hL : L ≤ 18) (h6 : ks.length ≤ 6) (hb : st + ks.length ≤ L) (hg : ∀ t, t < ks.length → g (st + t) = .int (ks.getD t 0)) :
    Ctr l Z (⟨"com/example/recordweave/recordweave/store/KeyIndex", "find", "([BII)I"⟩ : MethodName) prog_1_method_4_code 8 (some .int) rmK3 #[(.ref (A 0)), (.ref b), (.int (Int32.ofNat st)), (.int (Int32.ofNat (st + ks.length)))] h0 n0 (fun v h => h0 = h ∧ ∃ r, v = some (.int r) ∧ FS hd ks r) := by
  have hw := G.1
  have X_ := X
  obtain ⟨F, FA, BO, ⟨f3, B3, p3⟩, ⟨f4, B4, p4⟩, ⟨f5, B5, p5⟩, BT, BF, hI, hn6, hm2, hLb, hK, hD, hJ⟩ := X
  obtain ⟨d, -, hz⟩ := hI.zero (by omega) (hp ks)
  have ok := fnd_ok ks hI hz
  refine Ctr.of (n1 := n0) #[.val (.ref (A 0)), .val (.ref b), .val (.int (Int32.ofNat st)), .val (.int (Int32.ofNat (st + ks.length))), .unset, .unset, .unset, .unset] (plainFor_of_name pn12) (fun m => by first | (simp [entryFrame, mkF, argsToLocals, Value.category, maxLocals]; done) | rfl) ?_
  intro p e s m below meth c C
  refine g_aloadN C d19_0 (v := (.ref (A 0))) rfl rfl (q := 1) rfl ?_
  refine g_getf C d19_1 (host := "") (Or.inl (wd92 hw)) Via.refl F.2.2.2.2.2.2 (q := 4) rfl ?_
  refine g_alen C d19_4 BT (z := (2048 : Int32)) rfl (q := 5) rfl ?_
  refine g_iconst C d19_5 (z := (1 : Int32)) rfl (q := 6) rfl ?_
  refine g_isub C d19_6 (q := 7) rfl ?_
  rw [show (2048 : Int32) - 1 = 2047 from by decide]
  refine g_istore C d19_7 (L' := #[.val (.ref (A 0)), .val (.ref b), .val (.int (Int32.ofNat st)), .val (.int (Int32.ofNat (st + ks.length))), .val (.int (2047 : Int32)), .unset, .unset, .unset]) rfl (q := 9) rfl ?_
  refine g_aloadN C d19_9 (v := (.ref b)) rfl rfl (q := 10) rfl ?_
  refine g_iloadN C d19_10 (v := (Int32.ofNat st)) rfl (q := 11) rfl ?_
  refine g_iloadN C d19_11 (v := (Int32.ofNat (st + ks.length))) rfl (q := 12) rfl ?_
  refine g_callS C (W := 0) (argsL := [(.ref b), (.int (Int32.ofNat st)), (.int (Int32.ofNat (st + ks.length)))]) (rest := []) d19_12 (wd142 hw) (wd143 hw) (wd76 hw) (wd144 hw) (by decide) (Ctr.bk (c_hash l Z a0 G h0 n0 b L st g ks B hL h6 hb hg) C (wd144 hw) (wd76 hw) (by decide) (by decide)) (by decide) (by decide) rfl (lenOf pd10 rfl) rfl rfl (q := 15) rfl (fun v1 h1 hQ1 => ?_)
  obtain ⟨rfl, rfl⟩ := hQ1
  refine ⟨[(.int (hs ks))], rfl, ?_⟩
  refine g_iload C d19_15 (v := (2047 : Int32)) rfl (q := 17) rfl ?_
  refine g_iand C d19_17 (q := 18) rfl ?_
  rw [hp_eq]
  refine g_istore C d19_18 (L' := #[.val (.ref (A 0)), .val (.ref b), .val (.int (Int32.ofNat st)), .val (.int (Int32.ofNat (st + ks.length))), .val (.int (2047 : Int32)), .val (.int (Int32.ofNat (hp ks))), .unset, .unset]) rfl (q := 20) rfl ?_
  exact Go.imp (loopF l Z a0 G h0 n0 A mm mc hd T sf Lb cb X_ b L st g ks B hL h6 hb hg C d (hp ks) .unset .unset (hp_lt ks) hz (Or.inl rfl) (Or.inl rfl)) (fun s₂ v hQ => by
    obtain ⟨r1, r2, L, ⟨⟨r3, r4⟩, r5⟩, r6⟩ := hQ
    exact ⟨r1, r2, L, ⟨⟨r3, _, r4, ok⟩, r5⟩, r6⟩)
set_option maxRecDepth 65536 in
set_option maxHeartbeats 40000000 in
theorem loopP {p : Program} {e : Env} {s : State} {m : MethodId} {args : Array Value} {below : List Frame} {meth : Method} {c : Code} (l : Launch) (Z : State) (a0 : Array Value) (G : Gl Z a0) (h0 : Heap) (n0 : Nat) (A : Nat → Addr) (n mm : Nat) (hn6 : n ≤ 6) (hm2 : mm ≤ 2) (sz : Value) (mv : Value) (T : Nat → Nat) (F : KIF Z h0 (A 0) (.ref (A 1)) (.ref (A 3)) (.ref (A 4)) (.ref (A 5)) sz (.ref (A 6))) (BT : Av Z h0 (A 6) .int 2048 (fun j => .int (Int32.ofNat (T j)))) (g6 : n0 ≤ A 6) (hTn : ∀ j, j < 2048 → T j ≤ 6) (C : Cx p s m meth c Z "com/example/recordweave/recordweave/store/KeyIndex" "place" prog_1_method_6_code 4 none) (d pl : Nat) (hpl : pl < 2048) (hz : T ((pl + d) % 2048) = 0) :
    Go p l e rmK3 s m args below meth c (FinN s below rmK3 n0 (fun v h => v = none ∧ Keep h0 h [A 6] ∧ Av Z h (A 6) .int 2048 (fun j => .int (Int32.ofNat (if j = plc T d pl then n + 1 else T j))))) n0 h0 0 0 44 #[.val (.ref (A 0)), .val (.int (Int32.ofNat n)), .val (.int (2047 : Int32)), .val (.int (Int32.ofNat pl))] [] := by
  have hw := G.1
  induction d generalizing pl with
  | zero =>
    have t0 : T pl = 0 := by rw [show (pl + 0) % 2048 = pl by omega] at hz; exact hz
    refine g_aloadN C d34_44 (v := (.ref (A 0))) rfl rfl (q := 45) rfl ?_
    refine g_getf C d34_45 (host := "") (Or.inl (wd92 hw)) Via.refl F.2.2.2.2.2.2 (q := 48) rfl ?_
    refine g_iloadN C d34_48 (v := (Int32.ofNat pl)) rfl (q := 49) rfl ?_
    refine g_iaload C d34_49 (i := pl) BT hpl rfl (by rw [t0]) (q := 50) rfl ?_
    refine g_if_eq C d34_50 (q' := 62) (q := 53) (by decide) (by decide) rfl (fun hy => ?_) (fun hn => absurd rfl hn)
    refine g_aloadN C d34_62 (v := (.ref (A 0))) rfl rfl (q := 63) rfl ?_
    refine g_getf C d34_63 (host := "") (Or.inl (wd92 hw)) Via.refl F.2.2.2.2.2.2 (q := 66) rfl ?_
    refine g_iloadN C d34_66 (v := (Int32.ofNat pl)) rfl (q := 67) rfl ?_
    refine g_iloadN C d34_67 (v := (Int32.ofNat n)) rfl (q := 68) rfl ?_
    refine g_iconst C d34_68 (z := (1 : Int32)) rfl (q := 69) rfl ?_
    refine g_iadd C d34_69 (q := 70) rfl ?_
    rw [of_succ]
    refine g_iastore C d34_70 (i := pl) BT hpl rfl g6 (q := 71) rfl (fun h1 W1 B1 => ?_)
    refine g_return C d34_71 (Nat.le_refl _) (by decide) (by decide) ⟨rfl, Keep.of_wr W1, B1.congr (fun j hj => by
        rw [show plc T 0 pl = pl from rfl]
        by_cases e1 : j = pl
        · rw [if_pos e1, if_pos e1]
        · rw [if_neg e1, if_neg e1])⟩
  | succ d ih =>
    refine g_aloadN C d34_44 (v := (.ref (A 0))) rfl rfl (q := 45) rfl ?_
    refine g_getf C d34_45 (host := "") (Or.inl (wd92 hw)) Via.refl F.2.2.2.2.2.2 (q := 48) rfl ?_
    refine g_iloadN C d34_48 (v := (Int32.ofNat pl)) rfl (q := 49) rfl ?_
    refine g_iaload C d34_49 (i := pl) BT hpl rfl rfl (q := 50) rfl ?_
    have tle := hTn pl hpl
    refine g_if_eq C d34_50 (q' := 62) (q := 53) (by decide) (by decide) rfl (fun q1 => ?_) (fun q1 => ?_)
    ·
      have t0 : T pl = 0 := of_inj (n := 0) (by omega) (by decide) q1
      refine g_aloadN C d34_62 (v := (.ref (A 0))) rfl rfl (q := 63) rfl ?_
      refine g_getf C d34_63 (host := "") (Or.inl (wd92 hw)) Via.refl F.2.2.2.2.2.2 (q := 66) rfl ?_
      refine g_iloadN C d34_66 (v := (Int32.ofNat pl)) rfl (q := 67) rfl ?_
      refine g_iloadN C d34_67 (v := (Int32.ofNat n)) rfl (q := 68) rfl ?_
      refine g_iconst C d34_68 (z := (1 : Int32)) rfl (q := 69) rfl ?_
      refine g_iadd C d34_69 (q := 70) rfl ?_
      rw [of_succ]
      refine g_iastore C d34_70 (i := pl) BT hpl rfl g6 (q := 71) rfl (fun h1 W1 B1 => ?_)
      refine g_return C d34_71 (Nat.le_refl _) (by decide) (by decide) ⟨rfl, Keep.of_wr W1, B1.congr (fun j hj => by
          rw [show plc T (d + 1) pl = pl from by simp only [plc, if_pos t0]]
          by_cases e1 : j = pl
          · rw [if_pos e1, if_pos e1]
          · rw [if_neg e1, if_neg e1])⟩
    ·
      have t0 : ¬ T pl = 0 := fun q => q1 (by rw [q]; rfl)
      refine g_iloadN C d34_53 (v := (Int32.ofNat pl)) rfl (q := 54) rfl ?_
      refine g_iconst C d34_54 (z := (1 : Int32)) rfl (q := 55) rfl ?_
      refine g_iadd C d34_55 (q := 56) rfl ?_
      refine g_iloadN C d34_56 (v := (2047 : Int32)) rfl (q := 57) rfl ?_
      refine g_iand C d34_57 (q := 58) rfl ?_
      rw [nx pl hpl]
      refine g_istoreN C d34_58 (L' := #[.val (.ref (A 0)), .val (.int (Int32.ofNat n)), .val (.int (2047 : Int32)), .val (.int (Int32.ofNat ((pl + 1) % 2048)))]) rfl (q := 59) rfl ?_
      refine g_goto C d34_59 (q := 44) (by decide) (by decide) ?_
      rw [show plc T (d + 1) pl = plc T d ((pl + 1) % 2048) from by simp only [plc, if_neg t0]]
      exact ih ((pl + 1) % 2048) (Nat.mod_lt _ (by decide)) (by rw [show ((pl + 1) % 2048 + d) % 2048 = (pl + (d + 1)) % 2048 by omega]; exact hz)
set_option maxRecDepth 65536 in
set_option maxHeartbeats 40000000 in
theorem c_place (l : Launch) (Z : State) (a0 : Array Value) (G : Gl Z a0) (h0 : Heap) (n0 : Nat) (A : Nat → Addr) (n mm : Nat) (hn6 : n ≤ 6) (hm2 : mm ≤ 2) (sz : Value) (mv : Value) (T : Nat → Nat) (F : KIF Z h0 (A 0) (.ref (A 1)) (.ref (A 3)) (.ref (A 4)) (.ref (A 5)) sz (.ref (A 6))) (BT : Av Z h0 (A 6) .int 2048 (fun j => .int (Int32.ofNat (T j)))) (g6 : n0 ≤ A 6) (hTn : ∀ j, j < 2048 → T j ≤ 6) (FA : ALF Z h0 (A 1) (.ref (A 2)) (.int (Int32.ofNat mm)) mv) (BO : Ao Z h0 (A 2) "java/lang/Object" 10 (fun j => if j < mm then .ref (A (7 + j)) else .null)) (f3 f4 f5 : Nat → Value) (B3 : Av Z h0 (A 3) .int 1024 f3) (B4 : Av Z h0 (A 4) .int 1024 f4) (B5 : Av Z h0 (A 5) .int 1024 f5) (fi : Nat) (kf : fi < mm) (L st : Nat) (g : Nat → Value) (ks : List Int32) (B : Av Z h0 (A (7 + fi)) .byte L g) (hL : L ≤ 18) (h6 : ks.length ≤ 6) (hb : st + ks.length ≤ L) (hg : ∀ t, t < ks.length → g (st + t) = .int (ks.getD t 0)) (EB : Exa Z h0 (A (7 + fi)) "[B") (p3 : f3 n = .int (Int32.ofNat fi)) (p4 : f4 n = .int (Int32.ofNat st)) (p5 : f5 n = .int (Int32.ofNat (st + ks.length))) (d : Nat) (hz : T ((hp ks + d) % 2048) = 0) :
    Ctr l Z (⟨"com/example/recordweave/recordweave/store/KeyIndex", "place", "(I)V"⟩ : MethodName) prog_1_method_6_code 4 none rmK3 #[(.ref (A 0)), (.int (Int32.ofNat n))] h0 n0 (fun v h => v = none ∧ Keep h0 h [A 6] ∧ Av Z h (A 6) .int 2048 (fun j => .int (Int32.ofNat (if j = plc T d (hp ks) then n + 1 else T j)))) := by
  have hw := G.1
  refine Ctr.of (n1 := n0) #[.val (.ref (A 0)), .val (.int (Int32.ofNat n)), .unset, .unset] (plainFor_of_name pn12) (fun m => by first | (simp [entryFrame, mkF, argsToLocals, Value.category, maxLocals]; done) | rfl) ?_
  intro p e s m below meth c C
  refine g_aloadN C d34_0 (v := (.ref (A 0))) rfl rfl (q := 1) rfl ?_
  refine g_getf C d34_1 (host := "") (Or.inl (wd92 hw)) Via.refl F.2.2.2.2.2.2 (q := 4) rfl ?_
  refine g_alen C d34_4 BT (z := (2048 : Int32)) rfl (q := 5) rfl ?_
  refine g_iconst C d34_5 (z := (1 : Int32)) rfl (q := 6) rfl ?_
  refine g_isub C d34_6 (q := 7) rfl ?_
  rw [show (2048 : Int32) - 1 = 2047 from by decide]
  refine g_istoreN C d34_7 (L' := #[.val (.ref (A 0)), .val (.int (Int32.ofNat n)), .val (.int (2047 : Int32)), .unset]) rfl (q := 8) rfl ?_
  refine g_aloadN C d34_8 (v := (.ref (A 0))) rfl rfl (q := 9) rfl ?_
  refine g_getf C d34_9 (host := "") (Or.inl (wd83 hw)) Via.refl F.2.1 (q := 12) rfl ?_
  refine g_aloadN C d34_12 (v := (.ref (A 0))) rfl rfl (q := 13) rfl ?_
  refine g_getf C d34_13 (host := "") (Or.inl (wd86 hw)) Via.refl F.2.2.1 (q := 16) rfl ?_
  refine g_iloadN C d34_16 (v := (Int32.ofNat n)) rfl (q := 17) rfl ?_
  refine g_iaload C d34_17 (i := n) B3 (by omega) rfl p3 (q := 18) rfl ?_
  refine g_callF C (W := 0) (argsL := [(.int (Int32.ofNat fi))]) (rest := []) (a := (A 1)) d34_18 (wd216 hw) (wd217 hw) (wd218 hw) (wd219 hw) (wd220 hw) (wd221 hw) (wd222 hw) (wd46 hw) (by first | rfl | simp [Cond.onTables, Cond.keepsFace, Cond.keeps, Cond.steady]) (by decide) FA.1 (Ctr.bk (c_get l Z a0 G (A 1) (A 2) (A (7 + fi)) _ mm 10 fi _ h0 n0 FA BO.av kf (by omega) (by decide) (if_pos kf)) C (wd223 hw) (wd15 hw) (by decide) (by decide)) (by decide) (by decide) rfl (lenOf pd24 rfl) rfl rfl (q := 23) rfl (fun v1 h1 hQ1 => ?_)
  obtain ⟨rfl, rfl⟩ := hQ1
  refine ⟨[(.ref (A (7 + fi)))], rfl, ?_⟩
  refine g_castY C d34_23 (wd237 hw) (Ins.self EB) (q := 26) rfl ?_
  refine g_aloadN C d34_26 (v := (.ref (A 0))) rfl rfl (q := 27) rfl ?_
  refine g_getf C d34_27 (host := "") (Or.inl (wd88 hw)) Via.refl F.2.2.2.1 (q := 30) rfl ?_
  refine g_iloadN C d34_30 (v := (Int32.ofNat n)) rfl (q := 31) rfl ?_
  refine g_iaload C d34_31 (i := n) B4 (by omega) rfl p4 (q := 32) rfl ?_
  refine g_aloadN C d34_32 (v := (.ref (A 0))) rfl rfl (q := 33) rfl ?_
  refine g_getf C d34_33 (host := "") (Or.inl (wd90 hw)) Via.refl F.2.2.2.2.1 (q := 36) rfl ?_
  refine g_iloadN C d34_36 (v := (Int32.ofNat n)) rfl (q := 37) rfl ?_
  refine g_iaload C d34_37 (i := n) B5 (by omega) rfl p5 (q := 38) rfl ?_
  refine g_callS C (W := 0) (argsL := [(.ref (A (7 + fi))), (.int (Int32.ofNat st)), (.int (Int32.ofNat (st + ks.length)))]) (rest := []) d34_38 (wd142 hw) (wd143 hw) (wd76 hw) (wd144 hw) (by decide) (Ctr.bk (c_hash l Z a0 G h0 n0 (A (7 + fi)) L st g ks B hL h6 hb hg) C (wd144 hw) (wd76 hw) (by decide) (by decide)) (by decide) (by decide) rfl (lenOf pd10 rfl) rfl rfl (q := 41) rfl (fun v1 h1 hQ1 => ?_)
  obtain ⟨rfl, rfl⟩ := hQ1
  refine ⟨[(.int (hs ks))], rfl, ?_⟩
  refine g_iloadN C d34_41 (v := (2047 : Int32)) rfl (q := 42) rfl ?_
  refine g_iand C d34_42 (q := 43) rfl ?_
  rw [hp_eq]
  refine g_istoreN C d34_43 (L' := #[.val (.ref (A 0)), .val (.int (Int32.ofNat n)), .val (.int (2047 : Int32)), .val (.int (Int32.ofNat (hp ks)))]) rfl (q := 44) rfl ?_
  exact loopP l Z a0 G h0 n0 A n mm hn6 hm2 sz mv T F BT g6 hTn C d (hp ks) (hp_lt ks) hz
set_option maxRecDepth 65536 in
set_option maxHeartbeats 40000000 in
theorem c_hold (l : Launch) (Z : State) (a0 : Array Value) (G : Gl Z a0) (h0 : Heap) (n0 : Nat) (A : Nat → Addr) (mm : Nat) (mc : Int32) (hd : HD) (T sf Lb : Nat → Nat) (cb : Nat → Nat → Value) (X : KX Z h0 A mm mc hd T sf Lb cb) (fi : Nat) (kf : fi < mm) (st : Nat) (ks : List Int32) (h6 : ks.length ≤ 6) (hb : st + ks.length ≤ Lb fi) (hg : ∀ t, t < ks.length → cb fi (st + t) = .int (ks.getD t 0)) (hnew : ∀ i, i < hd.length → kyx hd i ≠ ks) (h5 : hd.length < 6) (gA : ∀ i, i ≤ 6 → n0 ≤ A i) :
    Ctr l Z (⟨"com/example/recordweave/recordweave/store/KeyIndex", "hold", "(III)V"⟩ : MethodName) prog_1_method_5_code 5 none rmK4 #[(.ref (A 0)), (.int (Int32.ofNat fi)), (.int (Int32.ofNat st)), (.int (Int32.ofNat (st + ks.length)))] h0 n0 (fun v h => v = none ∧ Keep h0 h [A 0, A 3, A 4, A 5, A 6] ∧ ∃ T', KX Z h A mm mc (hd ++ [(ks, fi)]) T' (fun j => if j = hd.length then st else sf j) Lb cb) := by
  have hw := G.1
  obtain ⟨F, FA, BO, ⟨f3, B3, p3⟩, ⟨f4, B4, p4⟩, ⟨f5, B5, p5⟩, BT, BF, hI, hn6, hm2, hLb, hK, hD, hJ⟩ := X
  obtain ⟨d34, d35, d36, d45, d46, d56⟩ := hD
  have e03 : A 3 ≠ A 0 := B3.ne_exa F.1 (wd75 hw)
  have e04 : A 4 ≠ A 0 := B4.ne_exa F.1 (wd75 hw)
  have e05 : A 5 ≠ A 0 := B5.ne_exa F.1 (wd75 hw)
  have e06 : A 6 ≠ A 0 := BT.ne_exa F.1 (wd75 hw)
  have e13 : A 3 ≠ A 1 := B3.ne_exa FA.1 (wd14 hw)
  have e23 : A 3 ≠ A 2 := B3.ne_av BO.av (by decide)
  have eb3 : ∀ j, j < mm → A (7 + j) ≠ A 3 := fun j hj => (BF j hj).2.ne_av B3 (by decide)
  have e14 : A 4 ≠ A 1 := B4.ne_exa FA.1 (wd14 hw)
  have e24 : A 4 ≠ A 2 := B4.ne_av BO.av (by decide)
  have eb4 : ∀ j, j < mm → A (7 + j) ≠ A 4 := fun j hj => (BF j hj).2.ne_av B4 (by decide)
  have e15 : A 5 ≠ A 1 := B5.ne_exa FA.1 (wd14 hw)
  have e25 : A 5 ≠ A 2 := B5.ne_av BO.av (by decide)
  have eb5 : ∀ j, j < mm → A (7 + j) ≠ A 5 := fun j hj => (BF j hj).2.ne_av B5 (by decide)
  have e16 : A 6 ≠ A 1 := BT.ne_exa FA.1 (wd14 hw)
  have e26 : A 6 ≠ A 2 := BT.ne_av BO.av (by decide)
  have eb6 : ∀ j, j < mm → A (7 + j) ≠ A 6 := fun j hj => (BF j hj).2.ne_av BT (by decide)
  have e10 : A 1 ≠ A 0 := exa_ne FA.1 F.1 (by decide)
  have e20 : A 2 ≠ A 0 := BO.av.ne_exa F.1 (wd75 hw)
  have eb0 : ∀ j, j < mm → A (7 + j) ≠ A 0 := fun j hj => (BF j hj).2.ne_exa F.1 (wd75 hw)
  obtain ⟨d, -, hz⟩ := hI.zero (by omega) (hp ks)
  refine Ctr.of (n1 := n0) #[.val (.ref (A 0)), .val (.int (Int32.ofNat fi)), .val (.int (Int32.ofNat st)), .val (.int (Int32.ofNat (st + ks.length))), .unset] (plainFor_of_name pn12) (fun m => by first | (simp [entryFrame, mkF, argsToLocals, Value.category, maxLocals]; done) | rfl) ?_
  intro p e s m below meth c C
  refine g_aloadN C d33_0 (v := (.ref (A 0))) rfl rfl (q := 1) rfl ?_
  refine g_getf C d33_1 (host := "") (Or.inl (wd246 hw)) Via.refl F.2.2.2.2.2.1 (q := 4) rfl ?_
  refine g_aloadN C d33_4 (v := (.ref (A 0))) rfl rfl (q := 5) rfl ?_
  refine g_getf C d33_5 (host := "") (Or.inl (wd86 hw)) Via.refl F.2.2.1 (q := 8) rfl ?_
  refine g_alen C d33_8 B3 (z := (1024 : Int32)) rfl (q := 9) rfl ?_
  refine g_icmp_ne C d33_9 (q' := 63) (q := 12) (by decide) (by decide) rfl (fun hy => ?_) (fun hn => absurd (of_inj (n := 1024) (by omega) (by decide) hn) (by omega))
  refine g_aloadN C d33_63 (v := (.ref (A 0))) rfl rfl (q := 64) rfl ?_
  refine g_getf C d33_64 (host := "") (Or.inl (wd86 hw)) Via.refl F.2.2.1 (q := 67) rfl ?_
  refine g_aloadN C d33_67 (v := (.ref (A 0))) rfl rfl (q := 68) rfl ?_
  refine g_getf C d33_68 (host := "") (Or.inl (wd246 hw)) Via.refl F.2.2.2.2.2.1 (q := 71) rfl ?_
  refine g_iloadN C d33_71 (v := (Int32.ofNat fi)) rfl (q := 72) rfl ?_
  refine g_iastore C d33_72 (i := hd.length) B3 (by omega) rfl (gA 3 (by decide)) (q := 73) rfl (fun h1 W1 B3' => ?_)
  have F1 := F.other W1 (Ne.symm e03)
  have B41 := B4.other W1 (Ne.symm d34)
  have B51 := B5.other W1 (Ne.symm d35)
  have BT1 := BT.other W1 (Ne.symm d36)
  refine g_aloadN C d33_73 (v := (.ref (A 0))) rfl rfl (q := 74) rfl ?_
  refine g_getf C d33_74 (host := "") (Or.inl (wd88 hw)) Via.refl F1.2.2.2.1 (q := 77) rfl ?_
  refine g_aloadN C d33_77 (v := (.ref (A 0))) rfl rfl (q := 78) rfl ?_
  refine g_getf C d33_78 (host := "") (Or.inl (wd246 hw)) Via.refl F1.2.2.2.2.2.1 (q := 81) rfl ?_
  refine g_iloadN C d33_81 (v := (Int32.ofNat st)) rfl (q := 82) rfl ?_
  refine g_iastore C d33_82 (i := hd.length) B41 (by omega) rfl (gA 4 (by decide)) (q := 83) rfl (fun h2 W2 B4' => ?_)
  have F2 := F1.other W2 (Ne.symm e04)
  have B32 := B3'.other W2 d34
  have B52 := B51.other W2 (Ne.symm d45)
  have BT2 := BT1.other W2 (Ne.symm d46)
  refine g_aloadN C d33_83 (v := (.ref (A 0))) rfl rfl (q := 84) rfl ?_
  refine g_getf C d33_84 (host := "") (Or.inl (wd90 hw)) Via.refl F2.2.2.2.2.1 (q := 87) rfl ?_
  refine g_aloadN C d33_87 (v := (.ref (A 0))) rfl rfl (q := 88) rfl ?_
  refine g_getf C d33_88 (host := "") (Or.inl (wd246 hw)) Via.refl F2.2.2.2.2.2.1 (q := 91) rfl ?_
  refine g_iloadN C d33_91 (v := (Int32.ofNat (st + ks.length))) rfl (q := 92) rfl ?_
  refine g_iastore C d33_92 (i := hd.length) B52 (by omega) rfl (gA 5 (by decide)) (q := 93) rfl (fun h3 W3 B5' => ?_)
  have F3 := F2.other W3 (Ne.symm e05)
  have B33 := B32.other W3 d35
  have B43 := B4'.other W3 d45
  have BT3 := BT2.other W3 (Ne.symm d56)
  refine g_aloadN C d33_93 (v := (.ref (A 0))) rfl rfl (q := 94) rfl ?_
  refine g_dup C d33_94 rfl (q := 95) rfl ?_
  refine g_getf C d33_95 (host := "") (Or.inl (wd246 hw)) Via.refl F3.2.2.2.2.2.1 (q := 98) rfl ?_
  refine g_iconst C d33_98 (z := (1 : Int32)) rfl (q := 99) rfl ?_
  refine g_iadd C d33_99 (q := 100) rfl ?_
  rw [of_succ]
  refine g_putf C d33_100 (host := "") (Or.inl (wd246 hw)) Via.refl F3.2.2.2.2.2.1 F3.1 (Or.inl (wd247 hw)) (wd75 hw) (ty := .int) (by decide) rfl rfl (gA 0 (by decide)) (q := 103) rfl (fun h4 W4 => ?_)
  have F4 := F3.w4 hw W4
  have B34 := B33.other W4 e03
  have B44 := B43.other W4 e04
  have B54 := B5'.other W4 e05
  have BT4 := BT3.other W4 e06
  have K4 : Keep h0 h4 [A 0, A 3, A 4, A 5] := ((((Keep.refl h0 [A 0, A 3, A 4, A 5]).wr W1 (Or.inl (by simp))).wr W2 (Or.inl (by simp))).wr W3 (Or.inl (by simp))).wr W4 (Or.inl (by simp))
  have FA4 := FA.keep K4 (by simp [e10, Ne.symm e13, Ne.symm e14, Ne.symm e15])
  have BO4 := BO.keep K4 (by simp [e20, Ne.symm e23, Ne.symm e24, Ne.symm e25])
  have BF4 : ∀ j, j < mm → Exa Z h4 (A (7 + j)) "[B" ∧ Av Z h4 (A (7 + j)) .byte (Lb j) (cb j) := fun j hj => ⟨(BF j hj).1.keep K4, (BF j hj).2.keep K4 (by simp [eb0 j hj, eb3 j hj, eb4 j hj, eb5 j hj])⟩
  refine g_aloadN C d33_103 (v := (.ref (A 0))) rfl rfl (q := 104) rfl ?_
  refine g_getf C d33_104 (host := "") (Or.inl (wd246 hw)) Via.refl F4.2.2.2.2.2.1 (q := 107) rfl ?_
  refine g_iconst C d33_107 (z := (2 : Int32)) rfl (q := 108) rfl ?_
  refine g_imul C d33_108 (q := 109) rfl ?_
  refine g_aloadN C d33_109 (v := (.ref (A 0))) rfl rfl (q := 110) rfl ?_
  refine g_getf C d33_110 (host := "") (Or.inl (wd92 hw)) Via.refl F4.2.2.2.2.2.2 (q := 113) rfl ?_
  refine g_alen C d33_113 BT4 (z := (2048 : Int32)) rfl (q := 114) rfl ?_
  refine g_icmp_le C d33_114 (q' := 157) (q := 117) (by decide) (by decide) rfl (fun hy => ?_) (fun hn => absurd ((lt_iff (a := 2048) (b := (hd.length + 1) * 2) (by decide) (by omega)).mp (by rw [Int32.ofNat_mul]; exact hn)) (by omega))
  refine g_aloadN C d33_157 (v := (.ref (A 0))) rfl rfl (q := 158) rfl ?_
  refine g_aloadN C d33_158 (v := (.ref (A 0))) rfl rfl (q := 159) rfl ?_
  refine g_getf C d33_159 (host := "") (Or.inl (wd246 hw)) Via.refl F4.2.2.2.2.2.1 (q := 162) rfl ?_
  refine g_iconst C d33_162 (z := (1 : Int32)) rfl (q := 163) rfl ?_
  refine g_isub C d33_163 (q := 164) rfl ?_
  rw [show Int32.ofNat (hd.length + 1) - 1 = Int32.ofNat hd.length from of_sub (k := 1) (by omega)]
  refine g_callP C (W := 0) (argsL := [(.int (Int32.ofNat hd.length))]) (rest := []) (a := (A 0)) d33_164 (wd248 hw) (wd249 hw) (wd75 hw) (wd251 hw) (by decide) (priv_of C (wd250 hw)) F4.1 (Ctr.bk (c_place l Z a0 G h4 n0 A hd.length mm (by omega) hm2 _ _ T F4 BT4 (gA 6 (by decide)) (fun j hj => Nat.le_trans (hI.1 j hj) (by omega)) FA4 BO4 _ _ _ B34 B44 B54 fi kf (Lb fi) st (cb fi) ks (BF4 fi kf).2 (hLb fi kf) h6 hb hg (BF4 fi kf).1 (if_pos rfl) (if_pos rfl) (if_pos rfl) d hz) C (wd251 hw) (wd76 hw) (by decide) (by decide)) (by decide) (by decide) rfl (lenOf pd29 rfl) rfl rfl (q := 167) rfl (fun v5 h5 hQ5 => ?_)
  obtain ⟨rfl, K5, BT5⟩ := hQ5
  refine ⟨[], rfl, ?_⟩
  obtain ⟨e, he1, he2, he3⟩ := plc_ok (T := T) d (hp ks) (hp_lt ks) hz
  rw [he1] at BT5
  have hI' := hI.add (f := fi) hnew he2 he3
  have ll : (hd ++ [(ks, fi)]).length = hd.length + 1 := by simp
  refine g_return C d33_167 (Nat.le_refl _) (by decide) (by decide) ⟨rfl, (((Keep.refl h0 [A 0, A 3, A 4, A 5, A 6]).trans K4 (fun x hx => Or.inl (show x ∈ [A 0, A 3, A 4, A 5] ++ [A 6] from List.mem_append_left _ hx))).trans K5 (fun x hx => Or.inl (by cases List.mem_singleton.mp hx; simp)) : Keep h0 h5 [A 0, A 3, A 4, A 5, A 6]), _, by rw [ll]; exact F4.keep K5 (by simp [Ne.symm e06]), FA4.keep K5 (by simp [Ne.symm e16]), BO4.keep K5 (by simp [Ne.symm e26]), ⟨_, B34.keep K5 (by simp [d36]), fun j hj => by
      rw [ll] at hj
      by_cases c1 : j = hd.length
      · rw [if_pos c1, c1, flx_app2]
      · rw [if_neg c1, flx_app1 (by omega)]; exact p3 j (by omega)⟩, ⟨_, B44.keep K5 (by simp [d46]), fun j hj => by
      rw [ll] at hj
      dsimp only
      by_cases c1 : j = hd.length
      · rw [if_pos c1, if_pos c1]
      · rw [if_neg c1, if_neg c1]; exact p4 j (by omega)⟩, ⟨_, B54.keep K5 (by simp [d56]), fun j hj => by
      rw [ll] at hj
      dsimp only
      by_cases c1 : j = hd.length
      · rw [if_pos c1, if_pos c1, c1, kyx_app2]
      · rw [if_neg c1, if_neg c1, kyx_app1 (by omega)]; exact p5 j (by omega)⟩, BT5, fun j hj => ⟨(BF4 j hj).1.keep K5, (BF4 j hj).2.keep K5 (by simp [eb6 j hj])⟩, hI', by rw [ll]; omega, hm2, hLb, fun i hi => by
      rw [ll] at hi
      dsimp only
      by_cases c1 : i = hd.length
      · rw [c1, flx_app2, kyx_app2, if_pos rfl]; exact ⟨kf, hb, h6, hg⟩
      · rw [flx_app1 (by omega), kyx_app1 (by omega), if_neg c1]; exact hK i (by omega), ⟨d34, d35, d36, d45, d46, d56⟩, hJ⟩
/-- the index without a file -/
def K0 (Z : State) (h : Heap) (A : Nat → Addr) (De : Addr) : Prop := KIF Z h (A 0) (.ref (A 1)) (.ref (A 3)) (.ref (A 4)) (.ref (A 5)) (.int 0) (.ref (A 6)) ∧ ALF Z h (A 1) (.ref De) (.int 0) (.int 0) ∧ Av Z h (A 3) .int 1024 (fun _ => .int 0) ∧ Av Z h (A 4) .int 1024 (fun _ => .int 0) ∧ Av Z h (A 5) .int 1024 (fun _ => .int 0) ∧ Av Z h (A 6) .int 2048 (fun _ => .int 0) ∧ DI A
theorem K0.keep {Z : State} {h h' : Heap} {A : Nat → Addr} {De : Addr} (X : K0 Z h A De) (K : Keep h h' []) : K0 Z h' A De := by
  obtain ⟨F, FA, B3, B4, B5, BT, r⟩ := X
  exact ⟨F.keep K (by simp), FA.keep K (by simp), B3.keep K (by simp), B4.keep K (by simp), B5.keep K (by simp), BT.keep K (by simp), r⟩
theorem Ao.congr {Z : State} {h : Heap} {a : Addr} {Cl : String} {N : Nat} {f g : Nat → Value} (A : Ao Z h a Cl N f) (H : ∀ j, j < N → f j = g j) : Ao Z h a Cl N g := by
  obtain ⟨c, A1, A2, A3, A4, A5⟩ := A
  exact ⟨c, A1, A2, A3, A4, fun j hj => by rw [← H j hj]; exact A5 j hj⟩
theorem KX.fill {Z : State} {h h' : Heap} {A : Nat → Addr} {m : Nat} {mc : Int32} {hd : HD} {T sf Lb : Nat → Nat} {cb : Nat → Nat → Value} {a0 : Array Value} {q1 q2 : Nat} (X : KX Z h A m mc hd T sf Lb cb) (iK : (Jvm.Cond.instantiable "com/example/recordweave/recordweave/store/KeyIndex" q1).before a0 Z = true) (iA : (Jvm.Cond.instantiable "java/util/ArrayList" q2).before a0 Z = true) {j0 : Nat} (hj : j0 < m) (K : Keep h h' [A (7 + j0)]) {g' : Nat → Value} (B' : Av Z h' (A (7 + j0)) .byte (Lb j0) g') (hs : ∀ i, i < hd.length → flx hd i = j0 → ∀ t, t < (kyx hd i).length → g' (sf i + t) = cb j0 (sf i + t)) : KX Z h' A m mc hd T sf Lb (fun j => if j = j0 then g' else cb j) := by
  obtain ⟨F, FA, BO, ⟨f3, B3, p3⟩, ⟨f4, B4, p4⟩, ⟨f5, B5, p5⟩, BT, BF, hI, hn6, hm2, hLb, hK, hD, hJ⟩ := X
  have BJ := (BF j0 hj).2
  have e0 := Ne.symm (BJ.ne_exa F.1 iK)
  have e1 := Ne.symm (BJ.ne_exa FA.1 iA)
  have e2 := BO.av.ne_av BJ (by decide)
  have e3 := B3.ne_av BJ (by decide)
  have e4 := B4.ne_av BJ (by decide)
  have e5 := B5.ne_av BJ (by decide)
  have e6 := BT.ne_av BJ (by decide)
  refine ⟨F.keep K (by simpa using e0), FA.keep K (by simpa using e1), BO.keep K (by simpa using e2), ⟨f3, B3.keep K (by simpa using e3), p3⟩, ⟨f4, B4.keep K (by simpa using e4), p4⟩, ⟨f5, B5.keep K (by simpa using e5), p5⟩, BT.keep K (by simpa using e6), fun j hjm => ⟨(BF j hjm).1.keep K, ?_⟩, hI, hn6, hm2, hLb, fun i hi => ?_, hD, hJ⟩
  · by_cases c1 : j = j0
    · subst c1; simp only [if_true]; exact B'
    · simp only [if_neg c1]
      exact (BF j hjm).2.keep K (by simpa using fun q => c1 (hJ j j0 hjm hj q))
  · obtain ⟨r1, r2, r3, r4⟩ := hK i hi
    refine ⟨r1, r2, r3, fun t ht => ?_⟩
    by_cases c1 : flx hd i = j0
    · simp only [if_pos c1]; rw [hs i hi c1 t ht, ← c1]; exact r4 t ht
    · simp only [if_neg c1]; exact r4 t ht
theorem getD_mem {xs : List Int32} {k : Nat} (h : k < xs.length) : xs.getD k 0 ∈ xs := by simp [List.getD, h]
def SM (css : Nat → List Int32) : Nat → Nat
  | 0 => 0
  | i + 1 => SM css i + (u8 (css i)).length
theorem u6 {cs : List Int32} (h : cs.length ≤ 3) : (u8 cs).length ≤ 6 := by have := u8_len cs; omega
theorem SM_le {css : Nat → List Int32} : ∀ i, (∀ j, j < i → (css j).length ≤ 3) → SM css i ≤ 6 * i
  | 0, _ => Nat.le_refl _
  | i + 1, h => by have h1 := SM_le i (fun j hj => h j (by omega)); have h2 := u6 (h i (by omega)); simp only [SM]; omega
theorem SM_mono {css : Nat → List Int32} {i N : Nat} (h : i ≤ N) : SM css i ≤ SM css N := by
  induction N with
  | zero => obtain rfl : i = 0 := by omega
            exact Nat.le_refl _
  | succ N ih => by_cases c : i = N + 1
                 · rw [c]; exact Nat.le_refl _
                 · have := ih (by omega); simp only [SM]; omega
def adF (css : Nat → List Int32) (m : Nat) : Nat → Nat → HD → HD × Nat
  | 0, i, hd => (hd, i)
  | d + 1, i, hd => if hd.any (fun x => decide (x.1 = u8 (css i))) = true then (hd, i) else adF css m d (i + 1) (hd ++ [(u8 (css i), m)])
theorem any_iff {hd : HD} {ks : List Int32} : hd.any (fun x => decide (x.1 = ks)) = true ↔ ∃ i, i < hd.length ∧ kyx hd i = ks := by
  rw [List.any_eq_true]
  constructor
  · rintro ⟨x, hx, hk⟩
    obtain ⟨i, hi, rfl⟩ := List.getElem_of_mem hx
    exact ⟨i, hi, by unfold kyx; simpa [List.getD, hi] using hk⟩
  · rintro ⟨i, hi, hk⟩
    exact ⟨hd[i], List.getElem_mem hi, by unfold kyx at hk; simpa [List.getD, hi] using hk⟩
def FOx (hd : HD) (ks : List Int32) (r : Int32) : Prop := (∃ i, i < hd.length ∧ kyx hd i = ks ∧ r = Int32.ofNat (flx hd i)) ∨ ((∀ i, i < hd.length → kyx hd i ≠ ks) ∧ r = -1)
abbrev rmAD : Room := { frames := 5, cells := 12, slots := 200, locals := 164 }
set_option maxRecDepth 65536 in
set_option maxHeartbeats 40000000 in
theorem c_kinit (l : Launch) (Z : State) (a0 : Array Value) (G : Gl Z a0) (ki : Addr) (o0 o1 o2 o3 o5 : Value) (De : Addr) (SD : Sta Z Z.heap "java/util/ArrayList" "DEFAULTCAPACITY_EMPTY_ELEMENTDATA" "[Ljava/lang/Object;" (.ref De)) (fD : Nat → Value) (AD : Av Z Z.heap De (.object "java/lang/Object") 0 fD) (h0 : Heap) (n0 : Nat) (Z0 : n0 ≤ h0.size) (X0 : Ext Z.heap h0) (gki : n0 ≤ ki) (F : KIF Z h0 ki o0 o1 o2 o3 (.int 0) o5) :
    Ctr l Z (⟨"com/example/recordweave/recordweave/store/KeyIndex", "<init>", "()V"⟩ : MethodName) prog_1_method_1_code 1 none rmKI #[(.ref ki)] h0 n0 (fun v h => v = none ∧ ∃ A : Nat → Addr, A 0 = ki ∧ (∀ i, 1 ≤ i → i ≤ 6 → h0.size ≤ A i) ∧ Keep h0 h [ki] ∧ K0 Z h A De) := by
  have hw := G.1
  refine Ctr.of (n1 := n0) #[.val (.ref ki)] (plainFor_of_name pn12) (fun m => by first | (simp [entryFrame, mkF, argsToLocals, Value.category, maxLocals]; done) | rfl) ?_
  intro p e s m below meth c C
  refine g_aloadN C d11_0 (v := (.ref ki)) rfl rfl (q := 1) rfl ?_
  refine g_initO C d11_1 (wd80 hw) (wd32 hw) (wd33 hw) rfl (by decide) (W := 0) rfl (by decide) (q := 4) rfl ?_
  refine g_aloadN C d11_4 (v := (.ref ki)) rfl rfl (q := 5) rfl ?_
  refine g_new C d11_5 (wd81 hw) (wd14 hw) (wd15 hw) (by decide) (by decide) (q := 8) rfl (fun kl h1 q1 E1 A1 D1 => ?_)
  refine g_dup C d11_8 rfl (q := 9) rfl ?_
  have X1 := Ext.tr X0 E1
  have gk : n0 ≤ kl := by rw [q1]; exact Z0
  have gkz : Z.heap.size ≤ kl := by rw [q1]; exact X0.1
  have nk : ki ≠ kl := by rw [q1]; exact Nat.ne_of_lt F.1.lt
  refine g_callI C (W := 2) (argsL := []) (rest := [(.ref kl), (.ref ki)]) (a := kl) d11_9 rfl (wd82 hw) (wd17 hw) (wd18 hw) (by decide) (Ctr.bk (c_alinit l Z a0 G kl _ _ _ h1 n0 gk ⟨A1, D1 (Or.inl (wd38 hw)) (ty := (.array (.object "java/lang/Object"))) (by decide), D1 (Or.inl (wd51 hw)) (ty := .int) (by decide), D1 (Or.inl (wd35 hw)) (ty := .int) (by decide)⟩ De SD X1 gkz) C (wd18 hw) (wd15 hw) (by decide) (by decide)) (by decide) (by decide) rfl (lenOf pd19 rfl) rfl rfl (q := 12) rfl (fun v2 h2 hQ2 => ?_)
  obtain ⟨rfl, K2, FA2⟩ := hQ2
  refine ⟨[(.ref kl), (.ref ki)], rfl, ?_⟩
  have F2 := (F.ext E1).keep K2 (by simpa using nk)
  have KK2 : Keep h0 h2 [] := (Ext.kp E1 []).trans K2 (fun x hx => Or.inr (by cases List.mem_singleton.mp hx; rw [q1]; exact Nat.le_refl _))
  refine g_putf C d11_12 (host := "") (Or.inl (wd83 hw)) Via.refl F2.2.1 F2.1 (Or.inr ⟨(wd84 hw), rfl, rfl⟩) (wd75 hw) (ty := (.object "java/util/List")) (by decide) rfl rfl gki (q := 15) rfl (fun h3 W3 => ?_)
  have F3 := F2.w0 hw W3
  have FA3 := FA2.other W3 (Ne.symm nk)
  have KK3 : Keep h0 h3 [ki] := ((Keep.refl h0 [ki]).trans KK2 (by simp)).wr W3 (Or.inl (by simp))
  refine g_aloadN C d11_15 (v := (.ref ki)) rfl rfl (q := 16) rfl ?_
  refine g_sipush C d11_16 (z := (1024 : Int32)) rfl (q := 19) rfl ?_
  refine g_newarray C d11_19 (wd85 hw) (by decide) (cap := 1024) (by decide) (by decide) (by decide) (by decide) (q := 21) rfl (fun fa h4 k4 q4 E4 A4 => ?_)
  have Bfa_ : Av Z h4 fa .int 1024 (fun _ => .int 0) := Av.new A4 (by decide)
  have gfa : h0.size ≤ fa := by rw [q4]; exact KK3.1
  have F4 := F3.ext E4
  have FA4 := FA3.ext E4
  have nfa : fa ≠ ki := Bfa_.ne_exa F4.1 (wd75 hw)
  refine g_putf C d11_21 (host := "") (Or.inl (wd86 hw)) Via.refl F4.2.2.1 F4.1 (Or.inl (wd87 hw)) (wd75 hw) (ty := (.array .int)) (by decide) rfl rfl gki (q := 24) rfl (fun h5 W5 => ?_)
  have F5 := F4.w1 hw W5
  have FA5 := FA4.other W5 (Ne.symm nk)
  have KK5 : Keep h0 h5 [ki] := (KK3.trans (Ext.kp E4 []) (by simp)).wr W5 (Or.inl (by simp))
  have Bfa_ := Bfa_.other W5 nfa
  have lt_fa := Bfa_.lt
  refine g_aloadN C d11_24 (v := (.ref ki)) rfl rfl (q := 25) rfl ?_
  refine g_sipush C d11_25 (z := (1024 : Int32)) rfl (q := 28) rfl ?_
  refine g_newarray C d11_28 (wd85 hw) (by decide) (cap := 1024) (by decide) (by decide) (by decide) (by decide) (q := 30) rfl (fun sa h6 k6 q6 E6 A6 => ?_)
  have Bsa_ : Av Z h6 sa .int 1024 (fun _ => .int 0) := Av.new A6 (by decide)
  have gsa : h0.size ≤ sa := by rw [q6]; exact KK5.1
  have F6 := F5.ext E6
  have FA6 := FA5.ext E6
  have nsa : sa ≠ ki := Bsa_.ne_exa F6.1 (wd75 hw)
  have Bfa_ := Bfa_.ext E6
  have d_fa_sa : fa ≠ sa := by rw [q6]; exact Nat.ne_of_lt lt_fa
  refine g_putf C d11_30 (host := "") (Or.inl (wd88 hw)) Via.refl F6.2.2.2.1 F6.1 (Or.inl (wd89 hw)) (wd75 hw) (ty := (.array .int)) (by decide) rfl rfl gki (q := 33) rfl (fun h7 W7 => ?_)
  have F7 := F6.w2 hw W7
  have FA7 := FA6.other W7 (Ne.symm nk)
  have KK7 : Keep h0 h7 [ki] := (KK5.trans (Ext.kp E6 []) (by simp)).wr W7 (Or.inl (by simp))
  have Bfa_ := Bfa_.other W7 nfa
  have lt_fa := Bfa_.lt
  have Bsa_ := Bsa_.other W7 nsa
  have lt_sa := Bsa_.lt
  refine g_aloadN C d11_33 (v := (.ref ki)) rfl rfl (q := 34) rfl ?_
  refine g_sipush C d11_34 (z := (1024 : Int32)) rfl (q := 37) rfl ?_
  refine g_newarray C d11_37 (wd85 hw) (by decide) (cap := 1024) (by decide) (by decide) (by decide) (by decide) (q := 39) rfl (fun ea h8 k8 q8 E8 A8 => ?_)
  have Bea_ : Av Z h8 ea .int 1024 (fun _ => .int 0) := Av.new A8 (by decide)
  have gea : h0.size ≤ ea := by rw [q8]; exact KK7.1
  have F8 := F7.ext E8
  have FA8 := FA7.ext E8
  have nea : ea ≠ ki := Bea_.ne_exa F8.1 (wd75 hw)
  have Bfa_ := Bfa_.ext E8
  have d_fa_ea : fa ≠ ea := by rw [q8]; exact Nat.ne_of_lt lt_fa
  have Bsa_ := Bsa_.ext E8
  have d_sa_ea : sa ≠ ea := by rw [q8]; exact Nat.ne_of_lt lt_sa
  refine g_putf C d11_39 (host := "") (Or.inl (wd90 hw)) Via.refl F8.2.2.2.2.1 F8.1 (Or.inl (wd91 hw)) (wd75 hw) (ty := (.array .int)) (by decide) rfl rfl gki (q := 42) rfl (fun h9 W9 => ?_)
  have F9 := F8.w3 hw W9
  have FA9 := FA8.other W9 (Ne.symm nk)
  have KK9 : Keep h0 h9 [ki] := (KK7.trans (Ext.kp E8 []) (by simp)).wr W9 (Or.inl (by simp))
  have Bfa_ := Bfa_.other W9 nfa
  have lt_fa := Bfa_.lt
  have Bsa_ := Bsa_.other W9 nsa
  have lt_sa := Bsa_.lt
  have Bea_ := Bea_.other W9 nea
  have lt_ea := Bea_.lt
  refine g_aloadN C d11_42 (v := (.ref ki)) rfl rfl (q := 43) rfl ?_
  refine g_sipush C d11_43 (z := (2048 : Int32)) rfl (q := 46) rfl ?_
  refine g_newarray C d11_46 (wd85 hw) (by decide) (cap := 2048) (by decide) (by decide) (by decide) (by decide) (q := 48) rfl (fun tb h10 k10 q10 E10 A10 => ?_)
  have Btb_ : Av Z h10 tb .int 2048 (fun _ => .int 0) := Av.new A10 (by decide)
  have gtb : h0.size ≤ tb := by rw [q10]; exact KK9.1
  have F10 := F9.ext E10
  have FA10 := FA9.ext E10
  have ntb : tb ≠ ki := Btb_.ne_exa F10.1 (wd75 hw)
  have Bfa_ := Bfa_.ext E10
  have d_fa_tb : fa ≠ tb := by rw [q10]; exact Nat.ne_of_lt lt_fa
  have Bsa_ := Bsa_.ext E10
  have d_sa_tb : sa ≠ tb := by rw [q10]; exact Nat.ne_of_lt lt_sa
  have Bea_ := Bea_.ext E10
  have d_ea_tb : ea ≠ tb := by rw [q10]; exact Nat.ne_of_lt lt_ea
  refine g_putf C d11_48 (host := "") (Or.inl (wd92 hw)) Via.refl F10.2.2.2.2.2.2 F10.1 (Or.inl (wd93 hw)) (wd75 hw) (ty := (.array .int)) (by decide) rfl rfl gki (q := 51) rfl (fun h11 W11 => ?_)
  have F11 := F10.w5 hw W11
  have FA11 := FA10.other W11 (Ne.symm nk)
  have KK11 : Keep h0 h11 [ki] := (KK9.trans (Ext.kp E10 []) (by simp)).wr W11 (Or.inl (by simp))
  have Bfa_ := Bfa_.other W11 nfa
  have lt_fa := Bfa_.lt
  have Bsa_ := Bsa_.other W11 nsa
  have lt_sa := Bsa_.lt
  have Bea_ := Bea_.other W11 nea
  have lt_ea := Bea_.lt
  have Btb_ := Btb_.other W11 ntb
  have lt_tb := Btb_.lt
  refine g_return C d11_51 (Nat.le_refl _) (by decide) (by decide) ⟨rfl, (fun i => [ki, kl, tb, fa, sa, ea, tb].getD i 0), rfl, fun i h1 h6 => by
      obtain rfl | rfl | rfl | rfl | rfl | rfl : i = 1 ∨ i = 2 ∨ i = 3 ∨ i = 4 ∨ i = 5 ∨ i = 6 := by omega
      · show h0.size ≤ kl; rw [q1]; exact Nat.le_refl _
      · exact gtb
      · exact gfa
      · exact gsa
      · exact gea
      · exact gtb, KK11, F11, FA11, Bfa_, Bsa_, Bea_, Btb_, d_fa_sa, d_fa_ea, d_fa_tb, d_sa_ea, d_sa_tb, d_ea_tb⟩
set_option maxRecDepth 65536 in
set_option maxHeartbeats 40000000 in
theorem c_fileOf (l : Launch) (Z : State) (a0 : Array Value) (G : Gl Z a0) (cz : Int32) (S0 : Sta Z Z.heap "java/lang/String" "COMPACT_STRINGS" "Z" (.int cz)) (hcz : ¬ cz = 0) (u : Addr) (SI : Sta Z Z.heap "sun/nio/cs/UTF_8" "INSTANCE" "Lsun/nio/cs/UTF_8;" (.ref u)) (SU8 : Sta Z Z.heap "java/nio/charset/StandardCharsets" "UTF_8" "Ljava/nio/charset/Charset;" (.ref u)) (h0 : Heap) (n0 : Nat) (Z0 : n0 ≤ h0.size) (X0 : Ext Z.heap h0) (A : Nat → Addr) (mm : Nat) (mc : Int32) (hd : HD) (T sf Lb : Nat → Nat) (cb : Nat → Nat → Value) (X : KX Z h0 A mm mc hd T sf Lb cb) (ki : Addr) (e0 : A 0 = ki) (a : Addr) (cs : List Int32) (h3 : cs.length ≤ 3) (S : SE Z h0 a cs) :
    Ctr l Z (⟨"com/example/recordweave/recordweave/store/KeyIndex", "fileOf", "(Ljava/lang/String;)I"⟩ : MethodName) prog_1_method_3_code 4 (some .int) rmFO #[(.ref ki), (.ref a)] h0 n0 (fun v h => Keep h0 h [] ∧ ∃ r, v = some (.int r) ∧ FOx hd (u8 cs) r) := by
  have hw := G.1
  subst e0
  refine Ctr.of (n1 := n0) #[.val (.ref (A 0)), .val (.ref a), .unset, .unset] (plainFor_of_name pn12) (fun m => by first | (simp [entryFrame, mkF, argsToLocals, Value.category, maxLocals]; done) | rfl) ?_
  intro p e s m below meth c C
  refine g_aloadN C d12_0 (v := (.ref a)) rfl rfl (q := 1) rfl ?_
  refine g_gets C d12_1 (host := "") (Or.inl (wd99 hw)) Via.refl (SU8.ext X0) (q := 4) rfl ?_
  refine g_callV C (W := 0) (argsL := [(.ref u)]) (rest := []) (a := a) d12_4 (wd101 hw) (wd102 hw) (wd104 hw) (wd103 hw) (by decide) (nf_of C (wd104 hw)) S.exa (Ctr.bk (c_getB l Z a0 G cz S0 hcz h0 n0 Z0 u SI X0 a cs (by omega) S) C (wd105 hw) (wd5 hw) (by decide) (by decide)) (by decide) (by decide) rfl (lenOf pd30 rfl) rfl rfl (q := 7) rfl (fun v1 h1 hQ1 => ?_)
  obtain ⟨r, rfl, gr, K1, R1, ER⟩ := hQ1
  refine ⟨[(.ref r)], rfl, ?_⟩
  have X1 := X.keep K1
  have u6' := u6 h3
  refine g_astoreN C d12_7 rfl (L' := #[.val (.ref (A 0)), .val (.ref a), .val (.ref r), .unset]) rfl (q := 8) rfl ?_
  refine g_aloadN C d12_8 (v := (.ref (A 0))) rfl rfl (q := 9) rfl ?_
  refine g_aloadN C d12_9 (v := (.ref r)) rfl rfl (q := 10) rfl ?_
  refine g_iconst C d12_10 (z := (0 : Int32)) rfl (q := 11) rfl ?_
  refine g_aloadN C d12_11 (v := (.ref r)) rfl rfl (q := 12) rfl ?_
  refine g_alen C d12_12 R1 (z := (Int32.ofNat (u8 cs).length)) rfl (q := 13) rfl ?_
  rw [show Int32.ofNat (u8 cs).length = Int32.ofNat (0 + (u8 cs).length) from by rw [Nat.zero_add]]
  refine g_callP C (W := 0) (argsL := [(.ref r), (.int (Int32.ofNat 0)), (.int (Int32.ofNat (0 + (u8 cs).length)))]) (rest := []) (a := (A 0)) d12_13 (wd138 hw) (wd139 hw) (wd75 hw) (wd141 hw) (by decide) (priv_of C (wd140 hw)) X1.1.1 (Ctr.bk (c_find l Z a0 G h1 n0 A mm mc hd T sf Lb cb X1 r (u8 cs).length 0 _ (u8 cs) R1 (by omega) u6' (by omega) (fun t ht => by rw [Nat.zero_add])) C (wd141 hw) (wd76 hw) (by decide) (by decide)) (by decide) (by decide) rfl (lenOf pd10 rfl) rfl rfl (q := 16) rfl (fun v2 h2 hQ2 => ?_)
  obtain ⟨rfl, q, rfl, hF⟩ := hQ2
  refine ⟨[(.int q)], rfl, ?_⟩
  rcases hF with ⟨i, hi, hk, rfl⟩ | ⟨hn', rfl⟩
  ·
    obtain ⟨F, FA, BO, ⟨f3, B3, p3⟩, ⟨f4, B4, p4⟩, ⟨f5, B5, p5⟩, BT, BF, hI, hn6, hm2, hLb, hK, hD, hJ⟩ := X1
    refine g_istoreN C d12_16 (L' := #[.val (.ref (A 0)), .val (.ref a), .val (.ref r), .val (.int (Int32.ofNat i))]) rfl (q := 17) rfl ?_
    refine g_iloadN C d12_17 (v := (Int32.ofNat i)) rfl (q := 18) rfl ?_
    refine g_if_ge C d12_18 (q' := 25) (q := 21) (by decide) (by decide) rfl (fun hy => ?_) (fun hn => absurd hn (nn32 (by omega)))
    refine g_aloadN C d12_25 (v := (.ref (A 0))) rfl rfl (q := 26) rfl ?_
    refine g_getf C d12_26 (host := "") (Or.inl (wd86 hw)) Via.refl F.2.2.1 (q := 29) rfl ?_
    refine g_iloadN C d12_29 (v := (Int32.ofNat i)) rfl (q := 30) rfl ?_
    refine g_iaload C d12_30 (i := i) B3 (by omega) rfl (p3 i hi) (q := 31) rfl ?_
    refine g_ireturn C d12_31 (Nat.le_refl _) (by decide) (by decide) ⟨K1, _, rfl, Or.inl ⟨i, hi, hk, rfl⟩⟩
  ·
    refine g_istoreN C d12_16 (L' := #[.val (.ref (A 0)), .val (.ref a), .val (.ref r), .val (.int (-1 : Int32))]) rfl (q := 17) rfl ?_
    refine g_iloadN C d12_17 (v := (-1 : Int32)) rfl (q := 18) rfl ?_
    refine g_if_ge C d12_18 (q' := 25) (q := 21) (by decide) (by decide) rfl (fun hy => absurd (by decide) hy) (fun hn => ?_)
    refine g_iconst C d12_21 (z := (-1 : Int32)) rfl (q := 22) rfl ?_
    refine g_goto C d12_22 (q := 31) (by decide) (by decide) ?_
    refine g_ireturn C d12_31 (Nat.le_refl _) (by decide) (by decide) ⟨K1, _, rfl, Or.inr ⟨hn', rfl⟩⟩
set_option maxRecDepth 65536 in
set_option maxHeartbeats 40000000 in
theorem c_find0 (l : Launch) (Z : State) (a0 : Array Value) (G : Gl Z a0) (h0 : Heap) (n0 : Nat) (A : Nat → Addr) (De : Addr) (X : K0 Z h0 A De) (b : Addr) (g : Nat → Value) (ks : List Int32) (h6 : ks.length ≤ 6) (B : Av Z h0 b .byte ks.length g) (hg : ∀ t, t < ks.length → g t = .int (ks.getD t 0)) :
    Ctr l Z (⟨"com/example/recordweave/recordweave/store/KeyIndex", "find", "([BII)I"⟩ : MethodName) prog_1_method_4_code 8 (some .int) rmK3 #[(.ref (A 0)), (.ref b), (.int (Int32.ofNat 0)), (.int (Int32.ofNat (0 + ks.length)))] h0 n0 (fun v h => h0 = h ∧ v = some (.int (-1))) := by
  have hw := G.1
  obtain ⟨F, FA, B3, B4, B5, BT, hD⟩ := X
  refine Ctr.of (n1 := n0) #[.val (.ref (A 0)), .val (.ref b), .val (.int (Int32.ofNat 0)), .val (.int (Int32.ofNat (0 + ks.length))), .unset, .unset, .unset, .unset] (plainFor_of_name pn12) (fun m => by first | (simp [entryFrame, mkF, argsToLocals, Value.category, maxLocals]; done) | rfl) ?_
  intro p e s m below meth c C
  refine g_aloadN C d19_0 (v := (.ref (A 0))) rfl rfl (q := 1) rfl ?_
  refine g_getf C d19_1 (host := "") (Or.inl (wd92 hw)) Via.refl F.2.2.2.2.2.2 (q := 4) rfl ?_
  refine g_alen C d19_4 BT (z := (2048 : Int32)) rfl (q := 5) rfl ?_
  refine g_iconst C d19_5 (z := (1 : Int32)) rfl (q := 6) rfl ?_
  refine g_isub C d19_6 (q := 7) rfl ?_
  rw [show (2048 : Int32) - 1 = 2047 from by decide]
  refine g_istore C d19_7 (L' := #[.val (.ref (A 0)), .val (.ref b), .val (.int (Int32.ofNat 0)), .val (.int (Int32.ofNat (0 + ks.length))), .val (.int (2047 : Int32)), .unset, .unset, .unset]) rfl (q := 9) rfl ?_
  refine g_aloadN C d19_9 (v := (.ref b)) rfl rfl (q := 10) rfl ?_
  refine g_iloadN C d19_10 (v := (Int32.ofNat 0)) rfl (q := 11) rfl ?_
  refine g_iloadN C d19_11 (v := (Int32.ofNat (0 + ks.length))) rfl (q := 12) rfl ?_
  refine g_callS C (W := 0) (argsL := [(.ref b), (.int (Int32.ofNat 0)), (.int (Int32.ofNat (0 + ks.length)))]) (rest := []) d19_12 (wd142 hw) (wd143 hw) (wd76 hw) (wd144 hw) (by decide) (Ctr.bk (c_hash l Z a0 G h0 n0 b ks.length 0 g ks B (by omega) h6 (by omega) (fun t ht => by rw [Nat.zero_add]; exact hg t ht)) C (wd144 hw) (wd76 hw) (by decide) (by decide)) (by decide) (by decide) rfl (lenOf pd10 rfl) rfl rfl (q := 15) rfl (fun v1 h1 hQ1 => ?_)
  obtain ⟨rfl, rfl⟩ := hQ1
  refine ⟨[(.int (hs ks))], rfl, ?_⟩
  refine g_iload C d19_15 (v := (2047 : Int32)) rfl (q := 17) rfl ?_
  refine g_iand C d19_17 (q := 18) rfl ?_
  rw [hp_eq]
  refine g_istore C d19_18 (L' := #[.val (.ref (A 0)), .val (.ref b), .val (.int (Int32.ofNat 0)), .val (.int (Int32.ofNat (0 + ks.length))), .val (.int (2047 : Int32)), .val (.int (Int32.ofNat (hp ks))), .unset, .unset]) rfl (q := 20) rfl ?_
  refine g_aloadN C d19_20 (v := (.ref (A 0))) rfl rfl (q := 21) rfl ?_
  refine g_getf C d19_21 (host := "") (Or.inl (wd92 hw)) Via.refl F.2.2.2.2.2.2 (q := 24) rfl ?_
  refine g_iload C d19_24 (v := (Int32.ofNat (hp ks))) rfl (q := 26) rfl ?_
  refine g_iaload C d19_26 (i := (hp ks)) BT (hp_lt ks) rfl rfl (q := 27) rfl ?_
  refine g_if_eq C d19_27 (q' := 102) (q := 30) (by decide) (by decide) rfl (fun hy => ?_) (fun hn => absurd rfl hn)
  refine g_iconst C d19_102 (z := (-1 : Int32)) rfl (q := 103) rfl ?_
  refine g_ireturn C d19_103 (Nat.le_refl _) (by decide) (by decide) ⟨rfl, rfl⟩
set_option maxRecDepth 65536 in
set_option maxHeartbeats 40000000 in
theorem c_fileOf0 (l : Launch) (Z : State) (a0 : Array Value) (G : Gl Z a0) (cz : Int32) (S0 : Sta Z Z.heap "java/lang/String" "COMPACT_STRINGS" "Z" (.int cz)) (hcz : ¬ cz = 0) (u : Addr) (SI : Sta Z Z.heap "sun/nio/cs/UTF_8" "INSTANCE" "Lsun/nio/cs/UTF_8;" (.ref u)) (SU8 : Sta Z Z.heap "java/nio/charset/StandardCharsets" "UTF_8" "Ljava/nio/charset/Charset;" (.ref u)) (h0 : Heap) (n0 : Nat) (Z0 : n0 ≤ h0.size) (X0 : Ext Z.heap h0) (A : Nat → Addr) (De : Addr) (X : K0 Z h0 A De) (ki : Addr) (e0 : A 0 = ki) (a : Addr) (cs : List Int32) (h3 : cs.length ≤ 3) (S : SE Z h0 a cs) :
    Ctr l Z (⟨"com/example/recordweave/recordweave/store/KeyIndex", "fileOf", "(Ljava/lang/String;)I"⟩ : MethodName) prog_1_method_3_code 4 (some .int) rmFO #[(.ref ki), (.ref a)] h0 n0 (fun v h => Keep h0 h [] ∧ v = some (.int (-1))) := by
  have hw := G.1
  subst e0
  refine Ctr.of (n1 := n0) #[.val (.ref (A 0)), .val (.ref a), .unset, .unset] (plainFor_of_name pn12) (fun m => by first | (simp [entryFrame, mkF, argsToLocals, Value.category, maxLocals]; done) | rfl) ?_
  intro p e s m below meth c C
  refine g_aloadN C d12_0 (v := (.ref a)) rfl rfl (q := 1) rfl ?_
  refine g_gets C d12_1 (host := "") (Or.inl (wd99 hw)) Via.refl (SU8.ext X0) (q := 4) rfl ?_
  refine g_callV C (W := 0) (argsL := [(.ref u)]) (rest := []) (a := a) d12_4 (wd101 hw) (wd102 hw) (wd104 hw) (wd103 hw) (by decide) (nf_of C (wd104 hw)) S.exa (Ctr.bk (c_getB l Z a0 G cz S0 hcz h0 n0 Z0 u SI X0 a cs (by omega) S) C (wd105 hw) (wd5 hw) (by decide) (by decide)) (by decide) (by decide) rfl (lenOf pd30 rfl) rfl rfl (q := 7) rfl (fun v1 h1 hQ1 => ?_)
  obtain ⟨r, rfl, gr, K1, R1, ER⟩ := hQ1
  refine ⟨[(.ref r)], rfl, ?_⟩
  have X1 := X.keep K1
  have u6' := u6 h3
  refine g_astoreN C d12_7 rfl (L' := #[.val (.ref (A 0)), .val (.ref a), .val (.ref r), .unset]) rfl (q := 8) rfl ?_
  refine g_aloadN C d12_8 (v := (.ref (A 0))) rfl rfl (q := 9) rfl ?_
  refine g_aloadN C d12_9 (v := (.ref r)) rfl rfl (q := 10) rfl ?_
  refine g_iconst C d12_10 (z := (0 : Int32)) rfl (q := 11) rfl ?_
  refine g_aloadN C d12_11 (v := (.ref r)) rfl rfl (q := 12) rfl ?_
  refine g_alen C d12_12 R1 (z := (Int32.ofNat (u8 cs).length)) rfl (q := 13) rfl ?_
  rw [show Int32.ofNat (u8 cs).length = Int32.ofNat (0 + (u8 cs).length) from by rw [Nat.zero_add]]
  refine g_callP C (W := 0) (argsL := [(.ref r), (.int (Int32.ofNat 0)), (.int (Int32.ofNat (0 + (u8 cs).length)))]) (rest := []) (a := (A 0)) d12_13 (wd138 hw) (wd139 hw) (wd75 hw) (wd141 hw) (by decide) (priv_of C (wd140 hw)) X1.1.1 (Ctr.bk (c_find0 l Z a0 G h1 n0 A De X1 r _ (u8 cs) u6' R1 (fun t ht => rfl)) C (wd141 hw) (wd76 hw) (by decide) (by decide)) (by decide) (by decide) rfl (lenOf pd10 rfl) rfl rfl (q := 16) rfl (fun v2 h2 hQ2 => ?_)
  obtain ⟨rfl, rfl⟩ := hQ2
  refine ⟨[(.int (-1 : Int32))], rfl, ?_⟩
  refine g_istoreN C d12_16 (L' := #[.val (.ref (A 0)), .val (.ref a), .val (.ref r), .val (.int (-1 : Int32))]) rfl (q := 17) rfl ?_
  refine g_iloadN C d12_17 (v := (-1 : Int32)) rfl (q := 18) rfl ?_
  refine g_if_ge C d12_18 (q' := 25) (q := 21) (by decide) (by decide) rfl (fun hy => absurd (by decide) hy) (fun hn => ?_)
  refine g_iconst C d12_21 (z := (-1 : Int32)) rfl (q := 22) rfl ?_
  refine g_goto C d12_22 (q := 31) (by decide) (by decide) ?_
  refine g_ireturn C d12_31 (Nat.le_refl _) (by decide) (by decide) ⟨K1, rfl⟩
set_option maxRecDepth 65536 in
set_option maxHeartbeats 40000000 in
theorem loopAd {p : Program} {e : Env} {s : State} {m : MethodId} {args : Array Value} {below : List Frame} {meth : Method} {c : Code} (l : Launch) (Z : State) (a0 : Array Value) (G : Gl Z a0) (hB : Heap) (n0 : Nat) (A : Nat → Addr) (fm N : Nat) (hfm : fm ≤ 1) (hN : N ≤ 3) (css : Nat → List Int32) (r : Nat → Addr) (la en e2 : Addr) (vl0 vl2 ve2 : Value) (ge : Nat → Value) (FL : ALF Z hB la vl0 (.int (Int32.ofNat N)) vl2) (FE : ALF Z hB en (.ref e2) (.int (Int32.ofNat N)) ve2) (BE : Av Z hB e2 (.object "java/lang/Object") N ge) (hge : ∀ j, j < N → ge j = .ref (r j)) (BR : ∀ j, j < N → Exa Z hB (r j) "[B" ∧ Av Z hB (r j) .byte (u8 (css j)).length (fun t => .int ((u8 (css j)).getD t 0))) (nl : la ∉ [A 0, A 1, A 2, A 3, A 4, A 5, A 6, A (7 + fm)]) (ne : en ∉ [A 0, A 1, A 2, A 3, A 4, A 5, A 6, A (7 + fm)]) (n2 : e2 ∉ [A 0, A 1, A 2, A 3, A 4, A 5, A 6, A (7 + fm)]) (nr : ∀ j, j < N → r j ∉ [A 0, A 1, A 2, A 3, A 4, A 5, A 6, A (7 + fm)]) (gA : ∀ i, i ≤ 6 → n0 ≤ A i) (gnb : n0 ≤ A (7 + fm)) (h3 : ∀ j, j < N → (css j).length ≤ 3) (HR : HD × Nat) (C : Cx p s m meth c Z "com/example/recordweave/recordweave/store/KeyIndex" "add" prog_1_method_2_code 10 (some .int)) (d i : Nat) (h : Heap) (hd : HD) (T sf Lb : Nat → Nat) (cb : Nat → Nat → Value) (mc : Int32) (s8 s9 : Slot) (hdd : d = N - i) (hiN : i ≤ N) (KB : Keep hB h [A 0, A 1, A 2, A 3, A 4, A 5, A 6, A (7 + fm)]) (X : KX Z h A (fm + 1) mc hd T sf Lb cb) (hLm : Lb fm = SM css N) (hfit : ∀ j, j < SM css N → fits .byte (cb fm j) = true) (hstart : ∀ q, q < hd.length → flx hd q = fm → sf q + (kyx hd q).length ≤ SM css i) (hcnt : hd.length ≤ 3 * fm + i) (hHR : adF css fm d i hd = HR) (hs8 : s8 = .unset ∨ ∃ x, s8 = .val (.ref x)) (hs9 : s9 = .unset ∨ ∃ x, s9 = .val (.int x)) :
    Go p l e rmAD s m args below meth c (FinN s below rmAD n0 (fun v h => v = some (.int (Int32.ofNat HR.2)) ∧ Keep hB h [A 0, A 1, A 2, A 3, A 4, A 5, A 6, A (7 + fm)] ∧ ∃ (T sf Lb : Nat → Nat) (cb : Nat → Nat → Value) (mc : Int32), KX Z h A (fm + 1) mc HR.1 T sf Lb cb)) n0 h 12 200 111 #[.val (.ref (A 0)), .val (.ref la), .val (.int (Int32.ofNat fm)), .val (.ref en), .val (.int (Int32.ofNat (SM css N))), .val (.ref (A (7 + fm))), .val (.int (Int32.ofNat (SM css i))), .val (.int (Int32.ofNat i)), s8, s9] [] := by
  have hw := G.1
  induction d generalizing i h hd T sf Lb cb mc s8 s9 with
  | zero =>
    obtain rfl : i = N := by omega
    have FL1 := FL.keep KB nl
    have FE1 := FE.keep KB ne
    subst hHR
    refine g_iload C d21_111 (v := (Int32.ofNat i)) rfl (q := 113) rfl ?_
    refine g_aloadN C d21_113 (v := (.ref en)) rfl rfl (q := 114) rfl ?_
    refine g_callF C (W := 1) (argsL := []) (rest := [(.int (Int32.ofNat i))]) (a := en) d21_114 (wd152 hw) (wd153 hw) (wd154 hw) (wd155 hw) (wd156 hw) (wd157 hw) (wd158 hw) (wd46 hw) (by first | rfl | simp [Cond.onTables, Cond.keepsFace, Cond.keeps, Cond.steady]) (by decide) FE1.1 (Ctr.bk (c_alsize l Z a0 G en (Int32.ofNat i) _ _ h n0 FE1) C (wd159 hw) (wd15 hw) (by decide) (by decide)) (by decide) (by decide) rfl (lenOf pd31 rfl) rfl rfl (q := 119) rfl (fun v1 hx hQ1 => ?_)
    obtain ⟨rfl, rfl⟩ := hQ1
    refine ⟨[(.int (Int32.ofNat i)), (.int (Int32.ofNat i))], rfl, ?_⟩
    refine g_icmp_ge C d21_119 (q' := 191) (q := 122) (by decide) (by decide) rfl (fun hy => ?_) (fun hn => absurd ((lt_iff (by omega) (by omega)).mp hn) (Nat.lt_irrefl _))
    refine g_aloadN C d21_191 (v := (.ref la)) rfl rfl (q := 192) rfl ?_
    refine g_callF C (W := 0) (argsL := []) (rest := []) (a := la) d21_192 (wd152 hw) (wd153 hw) (wd154 hw) (wd155 hw) (wd156 hw) (wd157 hw) (wd158 hw) (wd46 hw) (by first | rfl | simp [Cond.onTables, Cond.keepsFace, Cond.keeps, Cond.steady]) (by decide) FL1.1 (Ctr.bk (c_alsize l Z a0 G la (Int32.ofNat i) _ _ h n0 FL1) C (wd159 hw) (wd15 hw) (by decide) (by decide)) (by decide) (by decide) rfl (lenOf pd31 rfl) rfl rfl (q := 197) rfl (fun v1 hx hQ1 => ?_)
    obtain ⟨rfl, rfl⟩ := hQ1
    refine ⟨[(.int (Int32.ofNat i))], rfl, ?_⟩
    refine g_ireturn C d21_197 (Nat.le_refl _) (by decide) (by decide) ⟨rfl, KB, T, sf, Lb, cb, mc, X⟩
  | succ d ih =>
    have hi : i < N := by omega
    have FE1 := FE.keep KB ne
    have BE1 := BE.keep KB n2
    have BRi := BR i hi
    have ER1 := BRi.1.keep KB
    have BR1 := BRi.2.keep KB (nr i hi)
    have X_ := X
    obtain ⟨F, FA, BO, ⟨f3, B3, p3⟩, ⟨f4, B4, p4⟩, ⟨f5, B5, p5⟩, BT, BF, hI, hn6, hm2, hLb, hK, hD, hJ⟩ := X
    have u6i := u6 (h3 i hi)
    have sle := SM_le (css := css) N h3
    have smi : SM css (i + 1) ≤ SM css N := SM_mono (by omega)
    have sme : SM css (i + 1) = SM css i + (u8 (css i)).length := rfl
    refine g_iload C d21_111 (v := (Int32.ofNat i)) rfl (q := 113) rfl ?_
    refine g_aloadN C d21_113 (v := (.ref en)) rfl rfl (q := 114) rfl ?_
    refine g_callF C (W := 1) (argsL := []) (rest := [(.int (Int32.ofNat i))]) (a := en) d21_114 (wd152 hw) (wd153 hw) (wd154 hw) (wd155 hw) (wd156 hw) (wd157 hw) (wd158 hw) (wd46 hw) (by first | rfl | simp [Cond.onTables, Cond.keepsFace, Cond.keeps, Cond.steady]) (by decide) FE1.1 (Ctr.bk (c_alsize l Z a0 G en (Int32.ofNat N) _ _ h n0 FE1) C (wd159 hw) (wd15 hw) (by decide) (by decide)) (by decide) (by decide) rfl (lenOf pd31 rfl) rfl rfl (q := 119) rfl (fun v1 hx hQ1 => ?_)
    obtain ⟨rfl, rfl⟩ := hQ1
    refine ⟨[(.int (Int32.ofNat N)), (.int (Int32.ofNat i))], rfl, ?_⟩
    refine g_icmp_ge C d21_119 (q' := 191) (q := 122) (by decide) (by decide) rfl (fun hy => absurd ((lt_iff (by omega) (by omega)).mpr hi) hy) (fun hn => ?_)
    refine g_aloadN C d21_122 (v := (.ref en)) rfl rfl (q := 123) rfl ?_
    refine g_iload C d21_123 (v := (Int32.ofNat i)) rfl (q := 125) rfl ?_
    refine g_callF C (W := 0) (argsL := [(.int (Int32.ofNat i))]) (rest := []) (a := en) d21_125 (wd216 hw) (wd217 hw) (wd218 hw) (wd219 hw) (wd220 hw) (wd221 hw) (wd222 hw) (wd46 hw) (by first | rfl | simp [Cond.onTables, Cond.keepsFace, Cond.keeps, Cond.steady]) (by decide) FE1.1 (Ctr.bk (c_get l Z a0 G en e2 (r i) _ N N i _ h n0 FE1 BE1 hi (Nat.le_refl _) (by omega) (hge i hi)) C (wd223 hw) (wd15 hw) (by decide) (by decide)) (by decide) (by decide) rfl (lenOf pd24 rfl) rfl rfl (q := 130) rfl (fun v1 hx hQ1 => ?_)
    obtain ⟨rfl, rfl⟩ := hQ1
    refine ⟨[(.ref (r i))], rfl, ?_⟩
    refine g_castY C d21_130 (wd237 hw) (Ins.self ER1) (q := 133) rfl ?_
    have stR : ∀ v : Addr, storeLocals #[.val (.ref (A 0)), .val (.ref la), .val (.int (Int32.ofNat fm)), .val (.ref en), .val (.int (Int32.ofNat (SM css N))), .val (.ref (A (7 + fm))), .val (.int (Int32.ofNat (SM css i))), .val (.int (Int32.ofNat i)), s8, s9] 8 (.ref v) = some #[.val (.ref (A 0)), .val (.ref la), .val (.int (Int32.ofNat fm)), .val (.ref en), .val (.int (Int32.ofNat (SM css N))), .val (.ref (A (7 + fm))), .val (.int (Int32.ofNat (SM css i))), .val (.int (Int32.ofNat i)), .val (.ref v), s9] := fun v => by rcases hs8 with rfl | ⟨x, rfl⟩ <;> rfl
    refine g_astore C d21_133 rfl (L' := #[.val (.ref (A 0)), .val (.ref la), .val (.int (Int32.ofNat fm)), .val (.ref en), .val (.int (Int32.ofNat (SM css N))), .val (.ref (A (7 + fm))), .val (.int (Int32.ofNat (SM css i))), .val (.int (Int32.ofNat i)), .val (.ref (r i)), s9]) (stR _) (q := 135) rfl ?_
    refine g_aload C d21_135 (v := (.ref (r i))) rfl rfl (q := 137) rfl ?_
    refine g_iconst C d21_137 (z := (0 : Int32)) rfl (q := 138) rfl ?_
    refine g_aload C d21_138 (v := (.ref (A (7 + fm)))) rfl rfl (q := 140) rfl ?_
    refine g_iload C d21_140 (v := (Int32.ofNat (SM css i))) rfl (q := 142) rfl ?_
    refine g_aload C d21_142 (v := (.ref (r i))) rfl rfl (q := 144) rfl ?_
    refine g_alen C d21_144 BR1 (z := (Int32.ofNat (u8 (css i)).length)) rfl (q := 145) rfl ?_
    refine g_acopy C  d21_145 (wd238 hw) (wd241 hw) (wd239 hw) (wd240 hw) BR1 ((BF fm (by omega)).2) rfl (fun j hj => u8_fit (css i) _ (by simp [List.getD, hj])) (fun j hj => hfit j (by omega)) (sp := 0) rfl (dp := SM css i) rfl (nn := (u8 (css i)).length) rfl (by omega) (by omega) gnb rfl (by decide) (W := 0) rfl (by decide) (q := 148) rfl (fun h2 K2 A2 => ?_)
    have X2 := X_.fill (wd75 hw) (wd14 hw) (by omega) K2 A2 (fun q hq hf t ht => by
      have := hstart q hq hf
      rw [if_neg (by omega)])
    have KB2 : Keep hB h2 [A 0, A 1, A 2, A 3, A 4, A 5, A 6, A (7 + fm)] := KB.trans K2 (fun x hx => Or.inl (by cases List.mem_singleton.mp hx; simp))
    have BR2 := BR1.keep K2 (by intro hm; exact nr i hi (by rw [List.mem_singleton.mp hm]; simp))
    refine g_iload C d21_148 (v := (Int32.ofNat (SM css i))) rfl (q := 150) rfl ?_
    refine g_aload C d21_150 (v := (.ref (r i))) rfl rfl (q := 152) rfl ?_
    refine g_alen C d21_152 BR2 (z := (Int32.ofNat (u8 (css i)).length)) rfl (q := 153) rfl ?_
    refine g_iadd C d21_153 (q := 154) rfl ?_
    rw [of_add]
    have stE : ∀ v, storeLocals #[.val (.ref (A 0)), .val (.ref la), .val (.int (Int32.ofNat fm)), .val (.ref en), .val (.int (Int32.ofNat (SM css N))), .val (.ref (A (7 + fm))), .val (.int (Int32.ofNat (SM css i))), .val (.int (Int32.ofNat i)), .val (.ref (r i)), s9] 9 (.int v) = some #[.val (.ref (A 0)), .val (.ref la), .val (.int (Int32.ofNat fm)), .val (.ref en), .val (.int (Int32.ofNat (SM css N))), .val (.ref (A (7 + fm))), .val (.int (Int32.ofNat (SM css i))), .val (.int (Int32.ofNat i)), .val (.ref (r i)), .val (.int v)] := fun v => by rcases hs9 with rfl | ⟨x, rfl⟩ <;> rfl
    refine g_istore C d21_154 (L' := #[.val (.ref (A 0)), .val (.ref la), .val (.int (Int32.ofNat fm)), .val (.ref en), .val (.int (Int32.ofNat (SM css N))), .val (.ref (A (7 + fm))), .val (.int (Int32.ofNat (SM css i))), .val (.int (Int32.ofNat i)), .val (.ref (r i)), .val (.int (Int32.ofNat (SM css i + (u8 (css i)).length)))]) (stE _) (q := 156) rfl ?_
    refine g_aloadN C d21_156 (v := (.ref (A 0))) rfl rfl (q := 157) rfl ?_
    refine g_aload C d21_157 (v := (.ref (A (7 + fm)))) rfl rfl (q := 159) rfl ?_
    refine g_iload C d21_159 (v := (Int32.ofNat (SM css i))) rfl (q := 161) rfl ?_
    refine g_iload C d21_161 (v := (Int32.ofNat (SM css i + (u8 (css i)).length))) rfl (q := 163) rfl ?_
    refine g_callP C (W := 0) (argsL := [(.ref (A (7 + fm))), (.int (Int32.ofNat (SM css i))), (.int (Int32.ofNat (SM css i + (u8 (css i)).length)))]) (rest := []) (a := (A 0)) d21_163 (wd138 hw) (wd139 hw) (wd75 hw) (wd141 hw) (by decide) (priv_of C (wd140 hw)) X2.1.1 (Ctr.bk (c_find l Z a0 G h2 n0 A (fm + 1) mc hd T sf Lb _ X2 (A (7 + fm)) (Lb fm) (SM css i) _ (u8 (css i)) A2 (hLb fm (by omega)) u6i (by omega) (fun t ht => by
          rw [if_pos ⟨by omega, by omega⟩, show 0 + (SM css i + t - SM css i) = t by omega])) C (wd141 hw) (wd76 hw) (by decide) (by decide)) (by decide) (by decide) rfl (lenOf pd10 rfl) rfl rfl (q := 166) rfl (fun v3 hx hQ3 => ?_)
    obtain ⟨rfl, q, rfl, hF⟩ := hQ3
    refine ⟨[(.int q)], rfl, ?_⟩
    rcases hF with ⟨q', hq', hk', rfl⟩ | ⟨hno, rfl⟩
    ·
      have hHR2 : HR = (hd, i) := by rw [← hHR]; simp only [adF, if_pos (any_iff.mpr ⟨q', hq', hk'⟩)]
      subst hHR2
      refine g_if_lt C d21_166 (q' := 172) (q := 169) (by decide) (by decide) rfl (fun hy => absurd hy (nn32 (by omega))) (fun hn => ?_)
      refine g_iload C d21_169 (v := (Int32.ofNat i)) rfl (q := 171) rfl ?_
      refine g_ireturn C d21_171 (Nat.le_refl _) (by decide) (by decide) ⟨rfl, KB2, T, sf, Lb, _, mc, X2⟩
    ·
      refine g_if_lt C d21_166 (q' := 172) (q := 169) (by decide) (by decide) rfl (fun hy => ?_) (fun hn => absurd (by decide) hn)
      refine g_aloadN C d21_172 (v := (.ref (A 0))) rfl rfl (q := 173) rfl ?_
      refine g_iloadN C d21_173 (v := (Int32.ofNat fm)) rfl (q := 174) rfl ?_
      refine g_iload C d21_174 (v := (Int32.ofNat (SM css i))) rfl (q := 176) rfl ?_
      refine g_iload C d21_176 (v := (Int32.ofNat (SM css i + (u8 (css i)).length))) rfl (q := 178) rfl ?_
      refine g_callP C (W := 0) (argsL := [(.int (Int32.ofNat fm)), (.int (Int32.ofNat (SM css i))), (.int (Int32.ofNat (SM css i + (u8 (css i)).length)))]) (rest := []) (a := (A 0)) d21_178 (wd242 hw) (wd243 hw) (wd75 hw) (wd245 hw) (by decide) (priv_of C (wd244 hw)) X2.1.1 (Ctr.bk (c_hold l Z a0 G h2 n0 A (fm + 1) mc hd T sf Lb _ X2 fm (by omega) (SM css i) (u8 (css i)) u6i (by omega) (fun t ht => by
            simp only [if_true]
            rw [if_pos ⟨by omega, by omega⟩, show 0 + (SM css i + t - SM css i) = t by omega]) hno (by omega) gA) C (wd245 hw) (wd76 hw) (by decide) (by decide)) (by decide) (by decide) rfl (lenOf pd26 rfl) rfl rfl (q := 181) rfl (fun v4 h4 hQ4 => ?_)
      obtain ⟨rfl, K4, T4, X4⟩ := hQ4
      refine ⟨[], rfl, ?_⟩
      have KB4 : Keep hB h4 [A 0, A 1, A 2, A 3, A 4, A 5, A 6, A (7 + fm)] := KB2.trans K4 (fun x hx => Or.inl (by
        simp only [List.mem_cons, List.not_mem_nil, or_false] at hx ⊢
        rcases hx with h | h | h | h | h <;> simp [h]))
      have hHR4 : adF css fm d (i + 1) (hd ++ [(u8 (css i), fm)]) = HR := by
        rw [← hHR]; simp only [adF]
        rw [if_neg (fun q => by obtain ⟨j, hj, hk⟩ := any_iff.mp q; exact hno j hj hk)]
      have ll : (hd ++ [(u8 (css i), fm)]).length = hd.length + 1 := by simp
      refine g_iload C d21_181 (v := (Int32.ofNat (SM css i + (u8 (css i)).length))) rfl (q := 183) rfl ?_
      refine g_istore C d21_183 (L' := #[.val (.ref (A 0)), .val (.ref la), .val (.int (Int32.ofNat fm)), .val (.ref en), .val (.int (Int32.ofNat (SM css N))), .val (.ref (A (7 + fm))), .val (.int (Int32.ofNat (SM css i + (u8 (css i)).length))), .val (.int (Int32.ofNat i)), .val (.ref (r i)), .val (.int (Int32.ofNat (SM css i + (u8 (css i)).length)))]) rfl (q := 185) rfl ?_
      refine g_iinc C d21_185 rfl (L' := #[.val (.ref (A 0)), .val (.ref la), .val (.int (Int32.ofNat fm)), .val (.ref en), .val (.int (Int32.ofNat (SM css N))), .val (.ref (A (7 + fm))), .val (.int (Int32.ofNat (SM css i + (u8 (css i)).length))), .val (.int ((Int32.ofNat i) + (1 : Int32))), .val (.ref (r i)), .val (.int (Int32.ofNat (SM css i + (u8 (css i)).length)))]) rfl (q := 188) rfl ?_
      refine g_goto C d21_188 (q := 111) (by decide) (by decide) ?_
      rw [of_succ]
      exact ih (i + 1) h4 _ T4 _ Lb _ mc _ _ (by omega) (by omega) KB4 X4 hLm (fun j hj => by
        simp only [if_true]
        by_cases c1 : SM css i ≤ j ∧ j < SM css i + (u8 (css i)).length
        · rw [if_pos c1]; exact u8_fit (css i) _ (getD_mem (by omega))
        · rw [if_neg c1]; exact hfit j hj) (fun q hq hf => by
        rw [ll] at hq
        by_cases c1 : q = hd.length
        · subst c1; simp only [if_true]; rw [kyx_app2]; exact Nat.le_refl _
        · rw [flx_app1 (by omega)] at hf; simp only [if_neg c1]; rw [kyx_app1 (by omega)]; have := hstart q (by omega) hf; omega) (by rw [ll]; omega) hHR4 (Or.inr ⟨_, rfl⟩) (Or.inr ⟨_, rfl⟩)
theorem nin8 {x a0 a1 a2 a3 a4 a5 a6 a7 : Addr} (h0 : x ≠ a0) (h1 : x ≠ a1) (h2 : x ≠ a2) (h3 : x ≠ a3) (h4 : x ≠ a4) (h5 : x ≠ a5) (h6 : x ≠ a6) (h7 : x ≠ a7) : x ∉ [a0, a1, a2, a3, a4, a5, a6, a7] := by simp [h0, h1, h2, h3, h4, h5, h6, h7]
set_option maxRecDepth 65536 in
set_option maxHeartbeats 40000000 in
theorem loopEn0 {p : Program} {e : Env} {s : State} {m : MethodId} {args : Array Value} {below : List Frame} {meth : Method} {c : Code} (l : Launch) (Z : State) (a0 : Array Value) (G : Gl Z a0) (cz : Int32) (S0 : Sta Z Z.heap "java/lang/String" "COMPACT_STRINGS" "Z" (.int cz)) (hcz : ¬ cz = 0) (u : Addr) (SI : Sta Z Z.heap "sun/nio/cs/UTF_8" "INSTANCE" "Lsun/nio/cs/UTF_8;" (.ref u)) (SU8 : Sta Z Z.heap "java/nio/charset/StandardCharsets" "UTF_8" "Ljava/nio/charset/Charset;" (.ref u)) (h0 : Heap) (n0 : Nat) (Z0 : n0 ≤ h0.size) (X0 : Ext Z.heap h0) (A : Nat → Addr) (De : Addr) (SD : Sta Z Z.heap "java/util/ArrayList" "DEFAULTCAPACITY_EMPTY_ELEMENTDATA" "[Ljava/lang/Object;" (.ref De)) (fD : Nat → Value) (AD : Av Z Z.heap De (.object "java/lang/Object") 0 fD) (X : K0 Z h0 A De) (la le_ : Addr) (N cap : Nat) (gl : Nat → Value) (lm : Int32) (css : Nat → List Int32) (xs : Nat → Addr) (FL : ALF Z h0 la (.ref le_) (.int (Int32.ofNat N)) (.int lm)) (BL : Av Z h0 le_ (.object "java/lang/Object") cap gl) (hgl : ∀ j, j < N → gl j = .ref (xs j)) (hSE : ∀ j, j < N → SE Z h0 (xs j) (css j)) (h3 : ∀ j, j < N → (css j).length ≤ 3) (hN0 : 0 < N) (hN : N ≤ 3) (hNc : N ≤ cap) (hcap : cap ≤ 10) (nla : la ≠ A 1) (gA : ∀ i, i ≤ 6 → n0 ≤ A i) (gz : ∀ i, i ≤ 6 → Z.heap.size ≤ A i) (C : Cx p s m meth c Z "com/example/recordweave/recordweave/store/KeyIndex" "add" prog_1_method_2_code 10 (some .int)) (en e2 it : Addr) (gen : h0.size ≤ en) (ge2 : h0.size ≤ e2) (git : h0.size ≤ it) (d i : Nat) (h : Heap) (r : Nat → Addr) (ge : Nat → Value) (em : Int32) (lr : Value) (s6 s7 : Slot) (hdd : d = N - i) (hiN : i ≤ N) (KK : Keep h0 h []) (FE : ALF Z h en (.ref e2) (.int (Int32.ofNat i)) (.int em)) (BE : Ao Z h e2 "java/lang/Object" N ge) (hge : ∀ j, j < i → ge j = .ref (r j)) (IT : ITF Z h it (.int (Int32.ofNat i)) lr (.int lm) (.ref la)) (BR : ∀ j, j < i → Exa Z h (r j) "[B" ∧ Av Z h (r j) .byte (u8 (css j)).length (fun t => .int ((u8 (css j)).getD t 0))) (hr : ∀ j, j < i → h0.size ≤ r j) (hs6 : s6 = .unset ∨ ∃ x, s6 = .val (.ref x)) (hs7 : s7 = .unset ∨ ∃ x, s7 = .val (.ref x)) :
    Go p l e rmAD s m args below meth c (FinN s below rmAD n0 (fun v h => v = some (.int (Int32.ofNat (adF css 0 N 0 []).2)) ∧ Keep h0 h [A 0, A 1, A 2, A 3, A 4, A 5, A 6] ∧ ∃ (A' : Nat → Addr) (T sf Lb : Nat → Nat) (cb : Nat → Nat → Value) (mc : Int32), KX Z h A' 1 mc (adF css 0 N 0 []).1 T sf Lb cb ∧ A' 0 = A 0 ∧ ∀ i, 1 ≤ i → i ≤ 6 → A' i = A i ∨ h0.size ≤ A' i)) n0 h (3 + 2 * i) (30 + 32 * i) 35 #[.val (.ref (A 0)), .val (.ref la), .val (.int (Int32.ofNat 0)), .val (.ref en), .val (.int (Int32.ofNat (SM css i))), .val (.ref it), s6, s7, .unset, .unset] [] := by
  have hw := G.1
  induction d generalizing i h r ge em lr s6 s7 with
  | zero =>
    obtain rfl : i = N := by omega
    have FL1 := FL.keep KK (by simp)
    have sle := SM_le (css := css) i h3
    refine g_aload C d21_35 (v := (.ref it)) rfl rfl (q := 37) rfl ?_
    refine g_callF C (W := 0) (argsL := []) (rest := []) (a := it) d21_37 (wd186 hw) (wd187 hw) (wd188 hw) (wd189 hw) (wd190 hw) (wd191 hw) (wd192 hw) (wd193 hw) (by first | rfl | simp [Cond.onTables, Cond.keepsFace, Cond.keeps, Cond.steady]) (by decide) IT.1 (Ctr.bk (c_hasNext l Z a0 G h n0 la le_ it i i lr lm FL1 IT (by omega) (by omega)) C (wd194 hw) (wd173 hw) (by decide) (by decide)) (by have q1 : rmAD.cells = 12 := rfl; have q2 : rmA1.cells = 1 := rfl; have q3 : rmK0.cells = 0 := rfl; have q4 : rmK1.cells = 0 := rfl; have q5 : rmC4.cells = 2 := rfl; omega) (by have q1 : rmAD.slots = 200 := rfl; have q2 : rmA1.slots = 10 := rfl; have q3 : rmK0.slots = 0 := rfl; have q4 : rmK1.slots = 0 := rfl; have q5 : rmC4.slots = 32 := rfl; omega) rfl (lenOf pd32 rfl) rfl rfl (q := 42) rfl (fun v1 hx hQ1 => ?_)
    obtain ⟨rfl, r0, rfl, hA⟩ := hQ1
    refine ⟨[(.int r0)], rfl, ?_⟩
    obtain rfl : r0 = 0 := by
      rcases hA with ⟨q, -⟩ | ⟨-, q⟩
      · exact absurd rfl q
      · exact q
    refine g_if_eq C d21_42 (q' := 87) (q := 45) (by decide) (by decide) rfl (fun hy => ?_) (fun hn => absurd rfl hn)
    refine g_iload C d21_87 (v := (Int32.ofNat (SM css i))) rfl (q := 89) rfl ?_
    refine g_newarrayE C d21_89 (wd7 hw) (nn32 (by omega)) (cap := 18) (by rw [Int32.toNatClampNeg_ofNat_of_lt (by omega)]; omega) (by decide) (by have q1 : rmAD.cells = 12 := rfl; have q2 : rmA1.cells = 1 := rfl; have q3 : rmK0.cells = 0 := rfl; have q4 : rmK1.cells = 0 := rfl; have q5 : rmC4.cells = 2 := rfl; omega) (by have q1 : rmAD.slots = 200 := rfl; have q2 : rmA1.slots = 10 := rfl; have q3 : rmK0.slots = 0 := rfl; have q4 : rmK1.slots = 0 := rfl; have q5 : rmC4.slots = 32 := rfl; omega) (ad := "[B") rfl (q := 91) rfl (fun nb h1 k1 q1 E1 A1 F1 => ?_)
    have B1 : Av Z h1 nb .byte (SM css i) (fun _ => .int 0) := by
      have q := Av.new A1 (nn32 (show SM css i < 2 ^ 31 by omega))
      rw [Int32.toNatClampNeg_ofNat_of_lt (by omega)] at q
      exact q
    have gnb0 : h0.size ≤ nb := by rw [q1]; exact KK.1
    have KK1 : Keep h0 h1 [] := KK.trans (Ext.kp E1 []) (by simp)
    have Z1 : n0 ≤ h1.size := Nat.le_trans Z0 KK1.1
    have Xh := X
    have lA := X
    have X1 := X.keep KK1
    obtain ⟨F, FA, B3, B4, B5, BT, hD⟩ := X1
    have FL1 := FL.keep KK1 (by simp)
    have FE1 := FE.ext E1
    have BE1 := BE.ext E1
    have BR1 : ∀ j, j < i → Exa Z h1 (r j) "[B" ∧ Av Z h1 (r j) .byte (u8 (css j)).length (fun t => .int ((u8 (css j)).getD t 0)) := fun j hj => ⟨(BR j hj).1.ext E1, (BR j hj).2.ext E1⟩
    have nbA : ∀ j, j < i → r j ≠ nb := fun j hj => by rw [q1]; exact Nat.ne_of_lt (BR j hj).1.lt
    obtain ⟨F_, FA_, B3_, B4_, B5_, BT_, -⟩ := lA
    have l0 := F_.1.lt
    have l1 := FA_.1.lt
    have l3 := B3_.lt
    have l4 := B4_.lt
    have l5 := B5_.lt
    have l6 := BT_.lt
    refine g_astore C d21_91 rfl (L' := #[.val (.ref (A 0)), .val (.ref la), .val (.int (Int32.ofNat 0)), .val (.ref en), .val (.int (Int32.ofNat (SM css i))), .val (.ref nb), s6, s7, .unset, .unset]) rfl (q := 93) rfl ?_
    refine g_aloadN C d21_93 (v := (.ref (A 0))) rfl rfl (q := 94) rfl ?_
    refine g_getf C d21_94 (host := "") (Or.inl (wd83 hw)) Via.refl F.2.1 (q := 97) rfl ?_
    refine g_aload C d21_97 (v := (.ref nb)) rfl rfl (q := 99) rfl ?_
    refine g_callF C (W := 0) (argsL := [(.ref nb)]) (rest := []) (a := (A 1)) d21_99 (wd214 hw) (wd40 hw) (wd41 hw) (wd42 hw) (wd43 hw) (wd44 hw) (wd45 hw) (wd46 hw) (by first | rfl | simp [Cond.onTables, Cond.keepsFace, Cond.keeps, Cond.steady]) (by decide) FA.1 (Ctr.bk (c_adda l Z a0 G (A 1) 0 h1 n0 Z1 (gA 1 (by decide)) De SD fD AD (Ext.keep X0 KK1 (by simp)) FA nb "[B" F1 (wd215 hw) (gz 1 (by decide))) C (wd47 hw) (wd15 hw) (by decide) (by decide)) (by have q1 : rmAD.cells = 12 := rfl; have q2 : rmA1.cells = 1 := rfl; have q3 : rmK0.cells = 0 := rfl; have q4 : rmK1.cells = 0 := rfl; have q5 : rmC4.cells = 2 := rfl; omega) (by have q1 : rmAD.slots = 200 := rfl; have q2 : rmA1.slots = 10 := rfl; have q3 : rmK0.slots = 0 := rfl; have q4 : rmK1.slots = 0 := rfl; have q5 : rmC4.slots = 32 := rfl; omega) rfl (lenOf pd33 rfl) rfl rfl (q := 104) rfl (fun v2 h2 hQ2 => ?_)
    obtain ⟨rfl, r0, gr0, K2, FA2, BO2⟩ := hQ2
    refine ⟨[(.int (1 : Int32))], rfl, ?_⟩
    have e13 : A 3 ≠ A 1 := B3.ne_exa FA.1 (wd14 hw)
    have e14 : A 4 ≠ A 1 := B4.ne_exa FA.1 (wd14 hw)
    have e15 : A 5 ≠ A 1 := B5.ne_exa FA.1 (wd14 hw)
    have e16 : A 6 ≠ A 1 := BT.ne_exa FA.1 (wd14 hw)
    have e01 : A 0 ≠ A 1 := Ne.symm (exa_ne FA.1 F.1 (by decide))
    have en1 : en ≠ A 1 := Nat.ne_of_gt (Nat.lt_of_lt_of_le l1 gen)
    have e21 : e2 ≠ A 1 := Nat.ne_of_gt (Nat.lt_of_lt_of_le l1 ge2)
    have er1 : ∀ j, j < i → r j ≠ A 1 := fun j hj => Nat.ne_of_gt (Nat.lt_of_lt_of_le l1 (hr j hj))
    have eb1 : nb ≠ A 1 := Nat.ne_of_gt (Nat.lt_of_lt_of_le l1 gnb0)
    have FL2 := FL1.keep K2 (by simpa using nla)
    have FE2 := FE1.keep K2 (by simpa using en1)
    have BE2 := BE1.keep K2 (by simpa using e21)
    have BR2 : ∀ j, j < i → Exa Z h2 (r j) "[B" ∧ Av Z h2 (r j) .byte (u8 (css j)).length (fun t => .int ((u8 (css j)).getD t 0)) := fun j hj => ⟨(BR1 j hj).1.keep K2, (BR1 j hj).2.keep K2 (by simpa using (er1 j hj))⟩
    have F2 := F.keep K2 (by simpa using e01)
    have B32 := B3.keep K2 (by simpa using e13)
    have B42 := B4.keep K2 (by simpa using e14)
    have B52 := B5.keep K2 (by simpa using e15)
    have B62 := BT.keep K2 (by simpa using e16)
    have NB2 := B1.keep K2 (by simpa using eb1)
    have EN2 := F1.keep K2
    have XN : KX Z h2 (fun i => if i = 2 then r0 else if i = 7 then nb else A i) 1 (0 + 1) [] (fun _ => 0) (fun _ => 0) (fun _ => SM css i) (fun _ _ => .int 0) := ⟨F2, FA2, BO2.congr (fun j hj => by
        by_cases c1 : j = 0
        · subst c1; rfl
        · rw [if_neg c1, if_neg (by omega)]), ⟨_, B32, fun j hj => absurd hj (by simp)⟩, ⟨_, B42, fun j hj => absurd hj (by simp)⟩, ⟨_, B52, fun j hj => absurd hj (by simp)⟩, B62, fun j hj => by
        obtain rfl : j = 0 := by omega
        exact ⟨EN2, NB2⟩, Inv.nil, by decide, by decide, fun j hj => (by show SM css i ≤ 18; omega), fun q hq => absurd hq (by simp), hD, fun q q' h1 h2 _ => by omega⟩
    refine g_pop C d21_104 rfl (q := 105) rfl ?_
    refine g_iconst C d21_105 (z := (0 : Int32)) rfl (q := 106) rfl ?_
    have stS : ∀ v, storeLocals #[.val (.ref (A 0)), .val (.ref la), .val (.int (Int32.ofNat 0)), .val (.ref en), .val (.int (Int32.ofNat (SM css i))), .val (.ref nb), s6, s7, .unset, .unset] 6 (.int v) = some #[.val (.ref (A 0)), .val (.ref la), .val (.int (Int32.ofNat 0)), .val (.ref en), .val (.int (Int32.ofNat (SM css i))), .val (.ref nb), .val (.int v), s7, .unset, .unset] := fun v => by rcases hs6 with rfl | ⟨x, rfl⟩ <;> rfl
    refine g_istore C d21_106 (L' := #[.val (.ref (A 0)), .val (.ref la), .val (.int (Int32.ofNat 0)), .val (.ref en), .val (.int (Int32.ofNat (SM css i))), .val (.ref nb), .val (.int (0 : Int32)), s7, .unset, .unset]) (stS _) (q := 108) rfl ?_
    refine g_iconst C d21_108 (z := (0 : Int32)) rfl (q := 109) rfl ?_
    have stI_ : ∀ v, storeLocals #[.val (.ref (A 0)), .val (.ref la), .val (.int (Int32.ofNat 0)), .val (.ref en), .val (.int (Int32.ofNat (SM css i))), .val (.ref nb), .val (.int (0 : Int32)), s7, .unset, .unset] 7 (.int v) = some #[.val (.ref (A 0)), .val (.ref la), .val (.int (Int32.ofNat 0)), .val (.ref en), .val (.int (Int32.ofNat (SM css i))), .val (.ref nb), .val (.int (0 : Int32)), .val (.int v), .unset, .unset] := fun v => by rcases hs7 with rfl | ⟨x, rfl⟩ <;> rfl
    refine g_istore C d21_109 (L' := #[.val (.ref (A 0)), .val (.ref la), .val (.int (Int32.ofNat 0)), .val (.ref en), .val (.int (Int32.ofNat (SM css i))), .val (.ref nb), .val (.int (0 : Int32)), .val (.int (0 : Int32)), .unset, .unset]) (stI_ _) (q := 111) rfl ?_
    refine Go.more (k' := 12) (n' := 200) (by have q1 : rmAD.cells = 12 := rfl; have q2 : rmA1.cells = 1 := rfl; have q3 : rmK0.cells = 0 := rfl; have q4 : rmK1.cells = 0 := rfl; have q5 : rmC4.cells = 2 := rfl; omega) (by have q1 : rmAD.slots = 200 := rfl; have q2 : rmA1.slots = 10 := rfl; have q3 : rmK0.slots = 0 := rfl; have q4 : rmK1.slots = 0 := rfl; have q5 : rmC4.slots = 32 := rfl; omega) ?_
    exact Go.imp (loopAd l Z a0 G h2 n0 (fun i => if i = 2 then r0 else if i = 7 then nb else A i) 0 i (by decide) hN css r la en e2 _ _ _ ge FL2 FE2 BE2.av hge BR2 (nin8 (exa_ne FL2.1 F2.1 (by decide)) (nla) (Ne.symm (BO2.av.ne_exa FL2.1 (wd14 hw))) (Ne.symm (B32.ne_exa FL2.1 (wd14 hw))) (Ne.symm (B42.ne_exa FL2.1 (wd14 hw))) (Ne.symm (B52.ne_exa FL2.1 (wd14 hw))) (Ne.symm (B62.ne_exa FL2.1 (wd14 hw))) (Ne.symm (NB2.ne_exa FL2.1 (wd14 hw)))) (nin8 (Nat.ne_of_gt (Nat.lt_of_lt_of_le l0 gen)) (Nat.ne_of_gt (Nat.lt_of_lt_of_le l1 gen)) (Ne.symm (BO2.av.ne_exa FE2.1 (wd14 hw))) (Nat.ne_of_gt (Nat.lt_of_lt_of_le l3 gen)) (Nat.ne_of_gt (Nat.lt_of_lt_of_le l4 gen)) (Nat.ne_of_gt (Nat.lt_of_lt_of_le l5 gen)) (Nat.ne_of_gt (Nat.lt_of_lt_of_le l6 gen)) (Ne.symm (NB2.ne_exa FE2.1 (wd14 hw)))) (nin8 (Nat.ne_of_gt (Nat.lt_of_lt_of_le l0 ge2)) (Nat.ne_of_gt (Nat.lt_of_lt_of_le l1 ge2)) (Nat.ne_of_lt (Nat.lt_of_lt_of_le BE1.lt gr0)) (Nat.ne_of_gt (Nat.lt_of_lt_of_le l3 ge2)) (Nat.ne_of_gt (Nat.lt_of_lt_of_le l4 ge2)) (Nat.ne_of_gt (Nat.lt_of_lt_of_le l5 ge2)) (Nat.ne_of_gt (Nat.lt_of_lt_of_le l6 ge2)) (Ne.symm (NB2.ne_av BE2.av (by decide)))) (fun j hj => (nin8 (Nat.ne_of_gt (Nat.lt_of_lt_of_le l0 (hr j hj))) (Nat.ne_of_gt (Nat.lt_of_lt_of_le l1 (hr j hj))) (Ne.symm (BO2.av.ne_av (BR2 j hj).2 (by decide))) (Nat.ne_of_gt (Nat.lt_of_lt_of_le l3 (hr j hj))) (Nat.ne_of_gt (Nat.lt_of_lt_of_le l4 (hr j hj))) (Nat.ne_of_gt (Nat.lt_of_lt_of_le l5 (hr j hj))) (Nat.ne_of_gt (Nat.lt_of_lt_of_le l6 (hr j hj))) (nbA j hj))) (fun q hq => by
          obtain rfl | rfl | rfl | rfl | rfl | rfl | rfl : q = 0 ∨ q = 1 ∨ q = 2 ∨ q = 3 ∨ q = 4 ∨ q = 5 ∨ q = 6 := by omega
          · exact gA 0 (by decide)
          · exact gA 1 (by decide)
          · exact Nat.le_trans Z1 gr0
          · exact gA 3 (by decide)
          · exact gA 4 (by decide)
          · exact gA 5 (by decide)
          · exact gA 6 (by decide)) (Nat.le_trans Z0 gnb0) h3 _ C i 0 h2 [] (fun _ => 0) (fun _ => 0) (fun _ => SM css i) (fun _ _ => .int 0) (0 + 1) _ _ (by omega) (by omega) (Keep.refl _ _) XN rfl (fun j hj => rfl) (fun q hq => absurd hq (by simp)) (by simp) rfl (Or.inl rfl) (Or.inl rfl)) (fun s₂ v hQ => by
          obtain ⟨r1, r2, L, ⟨⟨r3, r4, T, sf, Lb, cb, mc, r5⟩, r6⟩, r7⟩ := hQ
          refine ⟨r1, r2, L, ⟨⟨r3, ?_, _, T, sf, Lb, cb, mc, r5, rfl, ?_⟩, r6⟩, r7⟩
          · refine (((Keep.refl h0 [A 0, A 1, A 2, A 3, A 4, A 5, A 6]).trans KK1 (by simp)).trans K2 (fun x hx => Or.inl (by simp at hx ⊢; simp [hx]))).trans r4 (fun x hx => ?_)
            have hx' : x ∈ [A 0, A 1, r0, A 3, A 4, A 5, A 6, nb] := hx
            simp only [List.mem_cons, List.not_mem_nil, or_false] at hx' ⊢
            rcases hx' with h | h | h | h | h | h | h | h
            · exact Or.inl (Or.inl h)
            · exact Or.inl (Or.inr (Or.inl h))
            · rw [h]; exact Or.inr (Nat.le_trans KK1.1 gr0)
            · exact Or.inl (Or.inr (Or.inr (Or.inr (Or.inl h))))
            · exact Or.inl (Or.inr (Or.inr (Or.inr (Or.inr (Or.inl h)))))
            · exact Or.inl (Or.inr (Or.inr (Or.inr (Or.inr (Or.inr (Or.inl h))))))
            · exact Or.inl (Or.inr (Or.inr (Or.inr (Or.inr (Or.inr (Or.inr h))))))
            · rw [h]; exact Or.inr gnb0
          · intro q hq1 hq6
            obtain rfl | rfl | rfl | rfl | rfl | rfl : q = 1 ∨ q = 2 ∨ q = 3 ∨ q = 4 ∨ q = 5 ∨ q = 6 := by omega
            · exact Or.inl rfl
            · exact Or.inr (Nat.le_trans KK1.1 gr0)
            · exact Or.inl rfl
            · exact Or.inl rfl
            · exact Or.inl rfl
            · exact Or.inl rfl)
  | succ d ih =>
    have hi : i < N := by omega
    have FL1 := FL.keep KK (by simp)
    have BL1 := BL.keep KK (by simp)
    have SE1 := (hSE i hi).keep KK (by simp)
    have u6i := u6 (h3 i hi)
    have neIT : en ≠ it := exa_ne FE.1 IT.1 (by decide)
    have ne2I : e2 ≠ it := BE.av.ne_exa IT.1 (wd172 hw)
    have nen2 : en ≠ e2 := Ne.symm (BE.av.ne_exa FE.1 (wd14 hw))
    refine g_aload C d21_35 (v := (.ref it)) rfl rfl (q := 37) rfl ?_
    refine g_callF C (W := 0) (argsL := []) (rest := []) (a := it) d21_37 (wd186 hw) (wd187 hw) (wd188 hw) (wd189 hw) (wd190 hw) (wd191 hw) (wd192 hw) (wd193 hw) (by first | rfl | simp [Cond.onTables, Cond.keepsFace, Cond.keeps, Cond.steady]) (by decide) IT.1 (Ctr.bk (c_hasNext l Z a0 G h n0 la le_ it N i lr lm FL1 IT (by omega) (by omega)) C (wd194 hw) (wd173 hw) (by decide) (by decide)) (by have q1 : rmAD.cells = 12 := rfl; have q2 : rmA1.cells = 1 := rfl; have q3 : rmK0.cells = 0 := rfl; have q4 : rmK1.cells = 0 := rfl; have q5 : rmC4.cells = 2 := rfl; omega) (by have q1 : rmAD.slots = 200 := rfl; have q2 : rmA1.slots = 10 := rfl; have q3 : rmK0.slots = 0 := rfl; have q4 : rmK1.slots = 0 := rfl; have q5 : rmC4.slots = 32 := rfl; omega) rfl (lenOf pd32 rfl) rfl rfl (q := 42) rfl (fun v1 hx hQ1 => ?_)
    obtain ⟨rfl, r0, rfl, hA⟩ := hQ1
    refine ⟨[(.int r0)], rfl, ?_⟩
    obtain rfl : r0 = 1 := by
      rcases hA with ⟨-, q⟩ | ⟨q, -⟩
      · exact q
      · exact absurd (by omega) q
    refine g_if_eq C d21_42 (q' := 87) (q := 45) (by decide) (by decide) rfl (fun hy => absurd hy (by decide)) (fun hn => ?_)
    refine g_aload C d21_45 (v := (.ref it)) rfl rfl (q := 47) rfl ?_
    refine g_callF C (W := 0) (argsL := []) (rest := []) (a := it) d21_47 (wd198 hw) (wd199 hw) (wd200 hw) (wd201 hw) (wd202 hw) (wd203 hw) (wd204 hw) (wd193 hw) (by first | rfl | simp [Cond.onTables, Cond.keepsFace, Cond.keeps, Cond.steady]) (by decide) IT.1 (Ctr.bk (c_next l Z a0 G h n0 la le_ it N i lr lm FL1 IT (Nat.le_trans Z0 git) cap gl BL1 hi hNc hcap (xs i) (hgl i hi)) C (wd205 hw) (wd173 hw) (by decide) (by decide)) (by have q1 : rmAD.cells = 12 := rfl; have q2 : rmA1.cells = 1 := rfl; have q3 : rmK0.cells = 0 := rfl; have q4 : rmK1.cells = 0 := rfl; have q5 : rmC4.cells = 2 := rfl; omega) (by have q1 : rmAD.slots = 200 := rfl; have q2 : rmA1.slots = 10 := rfl; have q3 : rmK0.slots = 0 := rfl; have q4 : rmK1.slots = 0 := rfl; have q5 : rmC4.slots = 32 := rfl; omega) rfl (lenOf pd34 rfl) rfl rfl (q := 52) rfl (fun v1 h1 hQ1 => ?_)
    obtain ⟨rfl, K1, IT1⟩ := hQ1
    refine ⟨[(.ref (xs i))], rfl, ?_⟩
    have KK1 : Keep h0 h1 [] := KK.trans K1 (fun x hx => Or.inr (by cases List.mem_singleton.mp hx; exact git))
    have SE2 := (hSE i hi).keep KK1 (by simp)
    have X1' := Ext.keep X0 KK1 (by simp)
    refine g_castY C d21_52 (wd212 hw) (Ins.self SE2.exa) (q := 55) rfl ?_
    have stK : ∀ v : Addr, storeLocals #[.val (.ref (A 0)), .val (.ref la), .val (.int (Int32.ofNat 0)), .val (.ref en), .val (.int (Int32.ofNat (SM css i))), .val (.ref it), s6, s7, .unset, .unset] 6 (.ref v) = some #[.val (.ref (A 0)), .val (.ref la), .val (.int (Int32.ofNat 0)), .val (.ref en), .val (.int (Int32.ofNat (SM css i))), .val (.ref it), .val (.ref v), s7, .unset, .unset] := fun v => by rcases hs6 with rfl | ⟨x, rfl⟩ <;> rfl
    refine g_astore C d21_55 rfl (L' := #[.val (.ref (A 0)), .val (.ref la), .val (.int (Int32.ofNat 0)), .val (.ref en), .val (.int (Int32.ofNat (SM css i))), .val (.ref it), .val (.ref (xs i)), s7, .unset, .unset]) (stK _) (q := 57) rfl ?_
    refine g_aload C d21_57 (v := (.ref (xs i))) rfl rfl (q := 59) rfl ?_
    refine g_gets C d21_59 (host := "") (Or.inl (wd99 hw)) Via.refl (SU8.ext X1') (q := 62) rfl ?_
    refine g_callV C (W := 0) (argsL := [(.ref u)]) (rest := []) (a := (xs i)) d21_62 (wd101 hw) (wd102 hw) (wd104 hw) (wd103 hw) (by decide) (nf_of C (wd104 hw)) SE2.exa (Ctr.bk (c_getB l Z a0 G cz S0 hcz h1 n0 (Nat.le_trans Z0 KK1.1) u SI X1' (xs i) (css i) (by have := h3 i hi; omega) SE2) C (wd105 hw) (wd5 hw) (by decide) (by decide)) (by have q1 : rmAD.cells = 12 := rfl; have q2 : rmA1.cells = 1 := rfl; have q3 : rmK0.cells = 0 := rfl; have q4 : rmK1.cells = 0 := rfl; have q5 : rmC4.cells = 2 := rfl; omega) (by have q1 : rmAD.slots = 200 := rfl; have q2 : rmA1.slots = 10 := rfl; have q3 : rmK0.slots = 0 := rfl; have q4 : rmK1.slots = 0 := rfl; have q5 : rmC4.slots = 32 := rfl; omega) rfl (lenOf pd30 rfl) rfl rfl (q := 65) rfl (fun v2 h2 hQ2 => ?_)
    obtain ⟨rr, rfl, grr, K2, R2, ER2⟩ := hQ2
    refine ⟨[(.ref rr)], rfl, ?_⟩
    have stB7 : ∀ v : Addr, storeLocals #[.val (.ref (A 0)), .val (.ref la), .val (.int (Int32.ofNat 0)), .val (.ref en), .val (.int (Int32.ofNat (SM css i))), .val (.ref it), .val (.ref (xs i)), s7, .unset, .unset] 7 (.ref v) = some #[.val (.ref (A 0)), .val (.ref la), .val (.int (Int32.ofNat 0)), .val (.ref en), .val (.int (Int32.ofNat (SM css i))), .val (.ref it), .val (.ref (xs i)), .val (.ref v), .unset, .unset] := fun v => by rcases hs7 with rfl | ⟨x, rfl⟩ <;> rfl
    refine g_astore C d21_65 rfl (L' := #[.val (.ref (A 0)), .val (.ref la), .val (.int (Int32.ofNat 0)), .val (.ref en), .val (.int (Int32.ofNat (SM css i))), .val (.ref it), .val (.ref (xs i)), .val (.ref rr), .unset, .unset]) (stB7 _) (q := 67) rfl ?_
    refine g_aloadN C d21_67 (v := (.ref en)) rfl rfl (q := 68) rfl ?_
    refine g_aload C d21_68 (v := (.ref rr)) rfl rfl (q := 70) rfl ?_
    have KK2 : Keep h0 h2 [] := KK1.trans K2 (by simp)
    have FE2 := (FE.keep K1 (by simpa using neIT)).keep K2 (by simp)
    have BE2 := (BE.keep K1 (by simpa using ne2I)).keep K2 (by simp)
    have IT2 := IT1.keep K2 (by simp)
    have grr0 : h0.size ≤ rr := Nat.le_trans KK1.1 grr
    refine g_callF C (W := 0) (argsL := [(.ref rr)]) (rest := []) (a := en) d21_70 (wd214 hw) (wd40 hw) (wd41 hw) (wd42 hw) (wd43 hw) (wd44 hw) (wd45 hw) (wd46 hw) (by first | rfl | simp [Cond.onTables, Cond.keepsFace, Cond.keeps, Cond.steady]) (by decide) FE2.1 (Ctr.bk (c_addc l Z a0 G en e2 em i N ge h2 n0 (Nat.le_trans Z0 KK2.1) (Nat.le_trans Z0 gen) (Nat.le_trans Z0 ge2) FE2 BE2 hi (by omega) nen2 rr "[B" ER2 (wd215 hw)) C (wd47 hw) (wd15 hw) (by decide) (by decide)) (by have q1 : rmAD.cells = 12 := rfl; have q2 : rmA1.cells = 1 := rfl; have q3 : rmK0.cells = 0 := rfl; have q4 : rmK1.cells = 0 := rfl; have q5 : rmC4.cells = 2 := rfl; omega) (by have q1 : rmAD.slots = 200 := rfl; have q2 : rmA1.slots = 10 := rfl; have q3 : rmK0.slots = 0 := rfl; have q4 : rmK1.slots = 0 := rfl; have q5 : rmC4.slots = 32 := rfl; omega) rfl (lenOf pd33 rfl) rfl rfl (q := 75) rfl (fun v3 h3_ hQ3 => ?_)
    obtain ⟨rfl, K3, FE3, BE3⟩ := hQ3
    refine ⟨[(.int (1 : Int32))], rfl, ?_⟩
    have nrr1 : rr ≠ en := R2.ne_exa FE2.1 (wd14 hw)
    have nrr2 : rr ≠ e2 := R2.ne_av BE2.av (by decide)
    have R3 := R2.keep K3 (by simp [nrr1, nrr2])
    have KK3 : Keep h0 h3_ [] := KK2.trans K3 (fun x hx => Or.inr (by
      simp only [List.mem_cons, List.not_mem_nil, or_false] at hx
      rcases hx with h | h
      · rw [h]; exact gen
      · rw [h]; exact ge2))
    have IT3 := IT2.keep K3 (by simp [Ne.symm neIT, Ne.symm ne2I])
    refine g_pop C d21_75 rfl (q := 76) rfl ?_
    refine g_iload C d21_76 (v := (Int32.ofNat (SM css i))) rfl (q := 78) rfl ?_
    refine g_aload C d21_78 (v := (.ref rr)) rfl rfl (q := 80) rfl ?_
    refine g_alen C d21_80 R3 (z := (Int32.ofNat (u8 (css i)).length)) rfl (q := 81) rfl ?_
    refine g_iadd C d21_81 (q := 82) rfl ?_
    rw [of_add]
    refine g_istore C d21_82 (L' := #[.val (.ref (A 0)), .val (.ref la), .val (.int (Int32.ofNat 0)), .val (.ref en), .val (.int (Int32.ofNat (SM css i + (u8 (css i)).length))), .val (.ref it), .val (.ref (xs i)), .val (.ref rr), .unset, .unset]) rfl (q := 84) rfl ?_
    refine g_goto C d21_84 (q := 35) (by decide) (by decide) ?_
    refine Go.more (k' := 3 + 2 * (i + 1)) (n' := 30 + 32 * (i + 1)) (by have q3 : rmK0.cells = 0 := rfl; have q4 : rmK1.cells = 0 := rfl; have q5 : rmC4.cells = 2 := rfl; omega) (by have q3 : rmK0.slots = 0 := rfl; have q4 : rmK1.slots = 0 := rfl; have q5 : rmC4.slots = 32 := rfl; omega) ?_
    exact ih (i + 1) h3_ (fun j => if j = i then rr else r j) _ _ _ _ _ (by omega) (by omega) KK3 FE3 BE3 (fun j hj => by
          by_cases c1 : j = i
          · rw [if_pos c1]; simp only [if_pos c1]
          · rw [if_neg c1]; simp only [if_neg c1]; exact hge j (by omega)) IT3 (fun j hj => by
          by_cases c1 : j = i
          · subst c1; simp only [if_true]; exact ⟨ER2.keep K3, R3⟩
          · simp only [if_neg c1]
            have nj1 : r j ≠ it := (BR j (by omega)).2.ne_exa IT.1 (wd172 hw)
            have nj2 : r j ≠ en := (BR j (by omega)).2.ne_exa FE.1 (wd14 hw)
            have nj3 : r j ≠ e2 := (BR j (by omega)).2.ne_av BE.av (by decide)
            exact ⟨(((BR j (by omega)).1.keep K1).keep K2).keep K3, (((BR j (by omega)).2.keep K1 (by simpa using nj1)).keep K2 (by simp)).keep K3 (by simp [nj2, nj3])⟩) (fun j hj => by
          by_cases c1 : j = i
          · simp only [if_pos c1]; exact grr0
          · simp only [if_neg c1]; exact hr j (by omega)) (Or.inr ⟨_, rfl⟩) (Or.inr ⟨_, rfl⟩)
set_option maxRecDepth 65536 in
set_option maxHeartbeats 40000000 in
theorem c_add_0 (l : Launch) (Z : State) (a0 : Array Value) (G : Gl Z a0) (cz : Int32) (S0 : Sta Z Z.heap "java/lang/String" "COMPACT_STRINGS" "Z" (.int cz)) (hcz : ¬ cz = 0) (u : Addr) (SI : Sta Z Z.heap "sun/nio/cs/UTF_8" "INSTANCE" "Lsun/nio/cs/UTF_8;" (.ref u)) (SU8 : Sta Z Z.heap "java/nio/charset/StandardCharsets" "UTF_8" "Ljava/nio/charset/Charset;" (.ref u)) (h0 : Heap) (n0 : Nat) (Z0 : n0 ≤ h0.size) (X0 : Ext Z.heap h0) (A : Nat → Addr) (De : Addr) (SD : Sta Z Z.heap "java/util/ArrayList" "DEFAULTCAPACITY_EMPTY_ELEMENTDATA" "[Ljava/lang/Object;" (.ref De)) (fD : Nat → Value) (AD : Av Z Z.heap De (.object "java/lang/Object") 0 fD) (X : K0 Z h0 A De) (la le_ : Addr) (N cap : Nat) (gl : Nat → Value) (lm : Int32) (css : Nat → List Int32) (xs : Nat → Addr) (FL : ALF Z h0 la (.ref le_) (.int (Int32.ofNat N)) (.int lm)) (BL : Av Z h0 le_ (.object "java/lang/Object") cap gl) (hgl : ∀ j, j < N → gl j = .ref (xs j)) (hSE : ∀ j, j < N → SE Z h0 (xs j) (css j)) (h3 : ∀ j, j < N → (css j).length ≤ 3) (hN0 : 0 < N) (hN : N ≤ 3) (hNc : N ≤ cap) (hcap : cap ≤ 10) (nla : la ≠ A 1) (gA : ∀ i, i ≤ 6 → n0 ≤ A i) (gz : ∀ i, i ≤ 6 → Z.heap.size ≤ A i) (ki : Addr) (e0 : A 0 = ki) :
    Ctr l Z (⟨"com/example/recordweave/recordweave/store/KeyIndex", "add", "(Ljava/util/List;)I"⟩ : MethodName) prog_1_method_2_code 10 (some .int) rmAD #[(.ref ki), (.ref la)] h0 n0 (fun v h => v = some (.int (Int32.ofNat (adF css 0 N 0 []).2)) ∧ Keep h0 h [A 0, A 1, A 2, A 3, A 4, A 5, A 6] ∧ ∃ (A' : Nat → Addr) (T sf Lb : Nat → Nat) (cb : Nat → Nat → Value) (mc : Int32), KX Z h A' 1 mc (adF css 0 N 0 []).1 T sf Lb cb ∧ A' 0 = ki ∧ ∀ i, 1 ≤ i → i ≤ 6 → A' i = A i ∨ h0.size ≤ A' i) := by
  have hw := G.1
  subst e0
  have Xo := X
  obtain ⟨F, FA, B3, B4, B5, BT, hD⟩ := X
  refine Ctr.of (n1 := n0) #[.val (.ref (A 0)), .val (.ref la), .unset, .unset, .unset, .unset, .unset, .unset, .unset, .unset] (plainFor_of_name pn12) (fun m => by first | (simp [entryFrame, mkF, argsToLocals, Value.category, maxLocals]; done) | rfl) ?_
  intro p e s m below meth c C
  refine g_aloadN C d21_0 (v := (.ref (A 0))) rfl rfl (q := 1) rfl ?_
  refine g_getf C d21_1 (host := "") (Or.inl (wd83 hw)) Via.refl F.2.1 (q := 4) rfl ?_
  refine g_callF C (W := 0) (argsL := []) (rest := []) (a := (A 1)) d21_4 (wd152 hw) (wd153 hw) (wd154 hw) (wd155 hw) (wd156 hw) (wd157 hw) (wd158 hw) (wd46 hw) (by first | rfl | simp [Cond.onTables, Cond.keepsFace, Cond.keeps, Cond.steady]) (by decide) FA.1 (Ctr.bk (c_alsize l Z a0 G (A 1) (Int32.ofNat 0) _ _ h0 n0 FA) C (wd159 hw) (wd15 hw) (by decide) (by decide)) (by decide) (by decide) rfl (lenOf pd31 rfl) rfl rfl (q := 9) rfl (fun v1 hx hQ1 => ?_)
  obtain ⟨rfl, rfl⟩ := hQ1
  refine ⟨[(.int (Int32.ofNat 0))], rfl, ?_⟩
  refine g_istoreN C d21_9 (L' := #[.val (.ref (A 0)), .val (.ref la), .val (.int (Int32.ofNat 0)), .unset, .unset, .unset, .unset, .unset, .unset, .unset]) rfl (q := 10) rfl ?_
  refine g_new C d21_10 (wd81 hw) (wd14 hw) (wd15 hw) (by decide) (by decide) (q := 13) rfl (fun en h1 q1 E1 A1 D1 => ?_)
  refine g_dup C d21_13 rfl (q := 14) rfl ?_
  refine g_aloadN C d21_14 (v := (.ref la)) rfl rfl (q := 15) rfl ?_
  have gen : h0.size ≤ en := by rw [q1]; exact Nat.le_refl _
  refine g_callF C (W := 2) (argsL := []) (rest := [(.ref en), (.ref en)]) (a := la) d21_15 (wd152 hw) (wd153 hw) (wd154 hw) (wd155 hw) (wd156 hw) (wd157 hw) (wd158 hw) (wd46 hw) (by first | rfl | simp [Cond.onTables, Cond.keepsFace, Cond.keeps, Cond.steady]) (by decide) (FL.ext E1).1 (Ctr.bk (c_alsize l Z a0 G la (Int32.ofNat N) _ _ h1 n0 (FL.ext E1)) C (wd159 hw) (wd15 hw) (by decide) (by decide)) (by decide) (by decide) rfl (lenOf pd31 rfl) rfl rfl (q := 20) rfl (fun v1 hx hQ1 => ?_)
  obtain ⟨rfl, rfl⟩ := hQ1
  refine ⟨[(.int (Int32.ofNat N)), (.ref en), (.ref en)], rfl, ?_⟩
  refine g_callI C (W := 1) (argsL := [(.int (Int32.ofNat N))]) (rest := [(.ref en)]) (a := en) d21_20 rfl (wd160 hw) (wd161 hw) (wd162 hw) (by decide) (Ctr.bk (c_alinitN l Z a0 G en _ _ _ N hN0 hN h1 n0 (Nat.le_trans Z0 gen) ⟨A1, D1 (Or.inl (wd38 hw)) (ty := (.array (.object "java/lang/Object"))) (by decide), D1 (Or.inl (wd51 hw)) (ty := .int) (by decide), D1 (Or.inl (wd35 hw)) (ty := .int) (by decide)⟩) C (wd162 hw) (wd15 hw) (by decide) (by decide)) (by decide) (by decide) rfl (lenOf pd29 rfl) rfl rfl (q := 23) rfl (fun v2 h2 hQ2 => ?_)
  obtain ⟨rfl, e2, ge2, K2, FE2, BE2⟩ := hQ2
  refine ⟨[(.ref en)], rfl, ?_⟩
  have KK2 : Keep h0 h2 [] := (Ext.kp E1 []).trans K2 (fun x hx => Or.inr (by cases List.mem_singleton.mp hx; exact gen))
  refine g_astoreN C d21_23 rfl (L' := #[.val (.ref (A 0)), .val (.ref la), .val (.int (Int32.ofNat 0)), .val (.ref en), .unset, .unset, .unset, .unset, .unset, .unset]) rfl (q := 24) rfl ?_
  refine g_iconst C d21_24 (z := (0 : Int32)) rfl (q := 25) rfl ?_
  refine g_istore C d21_25 (L' := #[.val (.ref (A 0)), .val (.ref la), .val (.int (Int32.ofNat 0)), .val (.ref en), .val (.int (0 : Int32)), .unset, .unset, .unset, .unset, .unset]) rfl (q := 27) rfl ?_
  refine g_aloadN C d21_27 (v := (.ref la)) rfl rfl (q := 28) rfl ?_
  refine g_callF C (W := 0) (argsL := []) (rest := []) (a := la) d21_28 (wd163 hw) (wd164 hw) (wd165 hw) (wd166 hw) (wd167 hw) (wd168 hw) (wd169 hw) (wd46 hw) (by first | rfl | simp [Cond.onTables, Cond.keepsFace, Cond.keeps, Cond.steady]) (by decide) (FL.keep KK2 (by simp)).1 (Ctr.bk (c_iter l Z a0 G h2 n0 (Nat.le_trans Z0 KK2.1) la _ _ lm (FL.keep KK2 (by simp))) C (wd170 hw) (wd15 hw) (by decide) (by decide)) (by decide) (by decide) rfl (lenOf pd35 rfl) rfl rfl (q := 33) rfl (fun v3 h3' hQ3 => ?_)
  obtain ⟨it, rfl, git, K3, IT3⟩ := hQ3
  refine ⟨[(.ref it)], rfl, ?_⟩
  refine g_astore C d21_33 rfl (L' := #[.val (.ref (A 0)), .val (.ref la), .val (.int (Int32.ofNat 0)), .val (.ref en), .val (.int (0 : Int32)), .val (.ref it), .unset, .unset, .unset, .unset]) rfl (q := 35) rfl ?_
  refine Go.more (k' := 3 + 2 * 0) (n' := 30 + 32 * 0) (by decide) (by decide) ?_
  exact loopEn0 l Z a0 G cz S0 hcz u SI SU8 h0 n0 Z0 X0 A De SD fD AD Xo la le_ N cap gl lm css xs FL BL hgl hSE h3 hN0 hN hNc hcap nla gA gz C en e2 it gen (Nat.le_trans E1.1 ge2) (Nat.le_trans KK2.1 git) N 0 h3' (fun _ => 0) _ _ _ _ _ (by omega) (by omega) (KK2.trans K3 (by simp)) (FE2.keep K3 (by simp)) (BE2.keep K3 (by simp)) (fun j hj => absurd hj (by omega)) IT3 (fun j hj => absurd hj (by omega)) (fun j hj => absurd hj (by omega)) (Or.inl rfl) (Or.inl rfl)
set_option maxRecDepth 65536 in
set_option maxHeartbeats 40000000 in
theorem loopEn1 {p : Program} {e : Env} {s : State} {m : MethodId} {args : Array Value} {below : List Frame} {meth : Method} {c : Code} (l : Launch) (Z : State) (a0 : Array Value) (G : Gl Z a0) (cz : Int32) (S0 : Sta Z Z.heap "java/lang/String" "COMPACT_STRINGS" "Z" (.int cz)) (hcz : ¬ cz = 0) (u : Addr) (SI : Sta Z Z.heap "sun/nio/cs/UTF_8" "INSTANCE" "Lsun/nio/cs/UTF_8;" (.ref u)) (SU8 : Sta Z Z.heap "java/nio/charset/StandardCharsets" "UTF_8" "Ljava/nio/charset/Charset;" (.ref u)) (h0 : Heap) (n0 : Nat) (Z0 : n0 ≤ h0.size) (X0 : Ext Z.heap h0) (A : Nat → Addr) (mc0 : Int32) (hd0 : HD) (T0 sf0 Lb0 : Nat → Nat) (cb0 : Nat → Nat → Value) (X : KX Z h0 A 1 mc0 hd0 T0 sf0 Lb0 cb0) (hc3 : hd0.length ≤ 3) (la le_ : Addr) (N cap : Nat) (gl : Nat → Value) (lm : Int32) (css : Nat → List Int32) (xs : Nat → Addr) (FL : ALF Z h0 la (.ref le_) (.int (Int32.ofNat N)) (.int lm)) (BL : Av Z h0 le_ (.object "java/lang/Object") cap gl) (hgl : ∀ j, j < N → gl j = .ref (xs j)) (hSE : ∀ j, j < N → SE Z h0 (xs j) (css j)) (h3 : ∀ j, j < N → (css j).length ≤ 3) (hN0 : 0 < N) (hN : N ≤ 3) (hNc : N ≤ cap) (hcap : cap ≤ 10) (nla : la ≠ A 1) (gA : ∀ i, i ≤ 6 → n0 ≤ A i) (gz : ∀ i, i ≤ 6 → Z.heap.size ≤ A i) (C : Cx p s m meth c Z "com/example/recordweave/recordweave/store/KeyIndex" "add" prog_1_method_2_code 10 (some .int)) (en e2 it : Addr) (gen : h0.size ≤ en) (ge2 : h0.size ≤ e2) (git : h0.size ≤ it) (d i : Nat) (h : Heap) (r : Nat → Addr) (ge : Nat → Value) (em : Int32) (lr : Value) (s6 s7 : Slot) (hdd : d = N - i) (hiN : i ≤ N) (KK : Keep h0 h []) (FE : ALF Z h en (.ref e2) (.int (Int32.ofNat i)) (.int em)) (BE : Ao Z h e2 "java/lang/Object" N ge) (hge : ∀ j, j < i → ge j = .ref (r j)) (IT : ITF Z h it (.int (Int32.ofNat i)) lr (.int lm) (.ref la)) (BR : ∀ j, j < i → Exa Z h (r j) "[B" ∧ Av Z h (r j) .byte (u8 (css j)).length (fun t => .int ((u8 (css j)).getD t 0))) (hr : ∀ j, j < i → h0.size ≤ r j) (hs6 : s6 = .unset ∨ ∃ x, s6 = .val (.ref x)) (hs7 : s7 = .unset ∨ ∃ x, s7 = .val (.ref x)) :
    Go p l e rmAD s m args below meth c (FinN s below rmAD n0 (fun v h => v = some (.int (Int32.ofNat (adF css 1 N 0 hd0).2)) ∧ Keep h0 h [A 0, A 1, A 2, A 3, A 4, A 5, A 6] ∧ ∃ (A' : Nat → Addr) (T sf Lb : Nat → Nat) (cb : Nat → Nat → Value) (mc : Int32), KX Z h A' 2 mc (adF css 1 N 0 hd0).1 T sf Lb cb ∧ A' 0 = A 0 ∧ ∀ i, 1 ≤ i → i ≤ 6 → A' i = A i ∨ h0.size ≤ A' i)) n0 h (3 + 2 * i) (30 + 32 * i) 35 #[.val (.ref (A 0)), .val (.ref la), .val (.int (Int32.ofNat 1)), .val (.ref en), .val (.int (Int32.ofNat (SM css i))), .val (.ref it), s6, s7, .unset, .unset] [] := by
  have hw := G.1
  induction d generalizing i h r ge em lr s6 s7 with
  | zero =>
    obtain rfl : i = N := by omega
    have FL1 := FL.keep KK (by simp)
    have sle := SM_le (css := css) i h3
    refine g_aload C d21_35 (v := (.ref it)) rfl rfl (q := 37) rfl ?_
    refine g_callF C (W := 0) (argsL := []) (rest := []) (a := it) d21_37 (wd186 hw) (wd187 hw) (wd188 hw) (wd189 hw) (wd190 hw) (wd191 hw) (wd192 hw) (wd193 hw) (by first | rfl | simp [Cond.onTables, Cond.keepsFace, Cond.keeps, Cond.steady]) (by decide) IT.1 (Ctr.bk (c_hasNext l Z a0 G h n0 la le_ it i i lr lm FL1 IT (by omega) (by omega)) C (wd194 hw) (wd173 hw) (by decide) (by decide)) (by have q1 : rmAD.cells = 12 := rfl; have q2 : rmA1.cells = 1 := rfl; have q3 : rmK0.cells = 0 := rfl; have q4 : rmK1.cells = 0 := rfl; have q5 : rmC4.cells = 2 := rfl; omega) (by have q1 : rmAD.slots = 200 := rfl; have q2 : rmA1.slots = 10 := rfl; have q3 : rmK0.slots = 0 := rfl; have q4 : rmK1.slots = 0 := rfl; have q5 : rmC4.slots = 32 := rfl; omega) rfl (lenOf pd32 rfl) rfl rfl (q := 42) rfl (fun v1 hx hQ1 => ?_)
    obtain ⟨rfl, r0, rfl, hA⟩ := hQ1
    refine ⟨[(.int r0)], rfl, ?_⟩
    obtain rfl : r0 = 0 := by
      rcases hA with ⟨q, -⟩ | ⟨-, q⟩
      · exact absurd rfl q
      · exact q
    refine g_if_eq C d21_42 (q' := 87) (q := 45) (by decide) (by decide) rfl (fun hy => ?_) (fun hn => absurd rfl hn)
    refine g_iload C d21_87 (v := (Int32.ofNat (SM css i))) rfl (q := 89) rfl ?_
    refine g_newarrayE C d21_89 (wd7 hw) (nn32 (by omega)) (cap := 18) (by rw [Int32.toNatClampNeg_ofNat_of_lt (by omega)]; omega) (by decide) (by have q1 : rmAD.cells = 12 := rfl; have q2 : rmA1.cells = 1 := rfl; have q3 : rmK0.cells = 0 := rfl; have q4 : rmK1.cells = 0 := rfl; have q5 : rmC4.cells = 2 := rfl; omega) (by have q1 : rmAD.slots = 200 := rfl; have q2 : rmA1.slots = 10 := rfl; have q3 : rmK0.slots = 0 := rfl; have q4 : rmK1.slots = 0 := rfl; have q5 : rmC4.slots = 32 := rfl; omega) (ad := "[B") rfl (q := 91) rfl (fun nb h1 k1 q1 E1 A1 F1 => ?_)
    have B1 : Av Z h1 nb .byte (SM css i) (fun _ => .int 0) := by
      have q := Av.new A1 (nn32 (show SM css i < 2 ^ 31 by omega))
      rw [Int32.toNatClampNeg_ofNat_of_lt (by omega)] at q
      exact q
    have gnb0 : h0.size ≤ nb := by rw [q1]; exact KK.1
    have KK1 : Keep h0 h1 [] := KK.trans (Ext.kp E1 []) (by simp)
    have Z1 : n0 ≤ h1.size := Nat.le_trans Z0 KK1.1
    have Xh := X
    have lA := X
    have X1 := X.keep KK1
    obtain ⟨F, FA, BO, ⟨f3, B3, p3⟩, ⟨f4, B4, p4⟩, ⟨f5, B5, p5⟩, BT, BF, hI, hn6, hm2, hLb, hK, hD, hJ⟩ := X1
    have FL1 := FL.keep KK1 (by simp)
    have FE1 := FE.ext E1
    have BE1 := BE.ext E1
    have BR1 : ∀ j, j < i → Exa Z h1 (r j) "[B" ∧ Av Z h1 (r j) .byte (u8 (css j)).length (fun t => .int ((u8 (css j)).getD t 0)) := fun j hj => ⟨(BR j hj).1.ext E1, (BR j hj).2.ext E1⟩
    have nbA : ∀ j, j < i → r j ≠ nb := fun j hj => by rw [q1]; exact Nat.ne_of_lt (BR j hj).1.lt
    obtain ⟨F_, FA_, BO_, ⟨_, B3_, -⟩, ⟨_, B4_, -⟩, ⟨_, B5_, -⟩, BT_, -⟩ := lA
    have l0 := F_.1.lt
    have l1 := FA_.1.lt
    have l3 := B3_.lt
    have l4 := B4_.lt
    have l5 := B5_.lt
    have l6 := BT_.lt
    have l2 := BO_.lt
    refine g_astore C d21_91 rfl (L' := #[.val (.ref (A 0)), .val (.ref la), .val (.int (Int32.ofNat 1)), .val (.ref en), .val (.int (Int32.ofNat (SM css i))), .val (.ref nb), s6, s7, .unset, .unset]) rfl (q := 93) rfl ?_
    refine g_aloadN C d21_93 (v := (.ref (A 0))) rfl rfl (q := 94) rfl ?_
    refine g_getf C d21_94 (host := "") (Or.inl (wd83 hw)) Via.refl F.2.1 (q := 97) rfl ?_
    refine g_aload C d21_97 (v := (.ref nb)) rfl rfl (q := 99) rfl ?_
    have ne12 : A 1 ≠ A 2 := Ne.symm (BO.av.ne_exa FA.1 (wd14 hw))
    refine g_callF C (W := 0) (argsL := [(.ref nb)]) (rest := []) (a := (A 1)) d21_99 (wd214 hw) (wd40 hw) (wd41 hw) (wd42 hw) (wd43 hw) (wd44 hw) (wd45 hw) (wd46 hw) (by first | rfl | simp [Cond.onTables, Cond.keepsFace, Cond.keeps, Cond.steady]) (by decide) FA.1 (Ctr.bk (c_addb l Z a0 G (A 1) (A 2) mc0 1 _ h1 n0 Z1 (gA 1 (by decide)) (gA 2 (by decide)) FA BO (by decide) ne12 nb "[B" F1 (wd215 hw)) C (wd47 hw) (wd15 hw) (by decide) (by decide)) (by have q1 : rmAD.cells = 12 := rfl; have q2 : rmA1.cells = 1 := rfl; have q3 : rmK0.cells = 0 := rfl; have q4 : rmK1.cells = 0 := rfl; have q5 : rmC4.cells = 2 := rfl; omega) (by have q1 : rmAD.slots = 200 := rfl; have q2 : rmA1.slots = 10 := rfl; have q3 : rmK0.slots = 0 := rfl; have q4 : rmK1.slots = 0 := rfl; have q5 : rmC4.slots = 32 := rfl; omega) rfl (lenOf pd33 rfl) rfl rfl (q := 104) rfl (fun v2 h2 hQ2 => ?_)
    obtain ⟨rfl, K2, FA2, BO2⟩ := hQ2
    refine ⟨[(.int (1 : Int32))], rfl, ?_⟩
    have e13 : A 3 ≠ A 1 := B3.ne_exa FA.1 (wd14 hw)
    have e23 : A 3 ≠ A 2 := B3.ne_av BO.av (by decide)
    have e14 : A 4 ≠ A 1 := B4.ne_exa FA.1 (wd14 hw)
    have e24 : A 4 ≠ A 2 := B4.ne_av BO.av (by decide)
    have e15 : A 5 ≠ A 1 := B5.ne_exa FA.1 (wd14 hw)
    have e25 : A 5 ≠ A 2 := B5.ne_av BO.av (by decide)
    have e16 : A 6 ≠ A 1 := BT.ne_exa FA.1 (wd14 hw)
    have e26 : A 6 ≠ A 2 := BT.ne_av BO.av (by decide)
    have e01 : A 0 ≠ A 1 := Ne.symm (exa_ne FA.1 F.1 (by decide))
    have en1 : en ≠ A 1 := Nat.ne_of_gt (Nat.lt_of_lt_of_le l1 gen)
    have e21 : e2 ≠ A 1 := Nat.ne_of_gt (Nat.lt_of_lt_of_le l1 ge2)
    have er1 : ∀ j, j < i → r j ≠ A 1 := fun j hj => Nat.ne_of_gt (Nat.lt_of_lt_of_le l1 (hr j hj))
    have eb1 : nb ≠ A 1 := Nat.ne_of_gt (Nat.lt_of_lt_of_le l1 gnb0)
    have e02 : A 0 ≠ A 2 := Ne.symm (BO.av.ne_exa F.1 (wd75 hw))
    have en2 : en ≠ A 2 := Nat.ne_of_gt (Nat.lt_of_lt_of_le l2 gen)
    have e22 : e2 ≠ A 2 := Nat.ne_of_gt (Nat.lt_of_lt_of_le l2 ge2)
    have er2 : ∀ j, j < i → r j ≠ A 2 := fun j hj => Nat.ne_of_gt (Nat.lt_of_lt_of_le l2 (hr j hj))
    have eb2 : nb ≠ A 2 := Nat.ne_of_gt (Nat.lt_of_lt_of_le l2 gnb0)
    have ela2 : la ≠ A 2 := Ne.symm (BO.av.ne_exa FL1.1 (wd14 hw))
    have e71 : A 7 ≠ A 1 := (BF 0 (by decide)).2.ne_exa FA.1 (wd14 hw)
    have e72 : A 7 ≠ A 2 := (BF 0 (by decide)).2.ne_av BO.av (by decide)
    have l7 := (BF 0 (by decide)).1.lt
    have FL2 := FL1.keep K2 (by simp [nla, ela2])
    have FE2 := FE1.keep K2 (by simp [en1, en2])
    have BE2 := BE1.keep K2 (by simp [e21, e22])
    have BR2 : ∀ j, j < i → Exa Z h2 (r j) "[B" ∧ Av Z h2 (r j) .byte (u8 (css j)).length (fun t => .int ((u8 (css j)).getD t 0)) := fun j hj => ⟨(BR1 j hj).1.keep K2, (BR1 j hj).2.keep K2 (by simp [(er1 j hj), er2 j hj])⟩
    have F2 := F.keep K2 (by simp [e01, e02])
    have B32 := B3.keep K2 (by simp [e13, e23])
    have B42 := B4.keep K2 (by simp [e14, e24])
    have B52 := B5.keep K2 (by simp [e15, e25])
    have B62 := BT.keep K2 (by simp [e16, e26])
    have NB2 := B1.keep K2 (by simp [eb1, eb2])
    have EN2 := F1.keep K2
    have l7_ : A 7 < h.size := by
      have Xk := X.keep KK
      obtain ⟨-, -, -, -, -, -, -, BF_, -⟩ := Xk
      exact (BF_ 0 (by decide)).1.lt
    have XN : KX Z h2 (fun i => if i = 8 then nb else A i) 2 (mc0 + 1) hd0 T0 sf0 (fun j => if j = 1 then SM css i else Lb0 j) (fun j => if j = 1 then (fun _ => .int 0) else cb0 j) := ⟨F2, FA2, BO2.congr (fun j hj => by
        by_cases c1 : j = 1
        · subst c1; rfl
        · rw [if_neg c1]
          by_cases c0 : j = 0
          · subst c0; rfl
          · rw [if_neg (by omega), if_neg (by omega)]), ⟨_, B32, p3⟩, ⟨_, B42, p4⟩, ⟨_, B52, p5⟩, B62, fun j hj => by
        obtain rfl | rfl : j = 0 ∨ j = 1 := by omega
        · exact ⟨(BF 0 (by decide)).1.keep K2, (BF 0 (by decide)).2.keep K2 (by simp [e71, e72])⟩
        · exact ⟨EN2, NB2⟩, hI, hn6, by decide, fun j hj => by
        dsimp only
        by_cases c1 : j = 1
        · rw [if_pos c1]; omega
        · rw [if_neg c1]; exact hLb j (by omega), fun q hq => by
        obtain ⟨r1, r2, r3, r4⟩ := hK q hq
        have c1 : ¬ flx hd0 q = 1 := by omega
        refine ⟨by omega, ?_, r3, fun t ht => ?_⟩
        · dsimp only; rw [if_neg c1]; exact r2
        · dsimp only; rw [if_neg c1]; exact r4 t ht, hD, fun q q' h1 h2 e => by
        have n78 : A 7 ≠ nb := by rw [q1]; exact Nat.ne_of_lt l7_
        obtain rfl | rfl : q = 0 ∨ q = 1 := by omega
        · obtain rfl | rfl : q' = 0 ∨ q' = 1 := by omega
          · rfl
          · exact absurd e n78
        · obtain rfl | rfl : q' = 0 ∨ q' = 1 := by omega
          · exact absurd e.symm n78
          · rfl⟩
    refine g_pop C d21_104 rfl (q := 105) rfl ?_
    refine g_iconst C d21_105 (z := (0 : Int32)) rfl (q := 106) rfl ?_
    have stS : ∀ v, storeLocals #[.val (.ref (A 0)), .val (.ref la), .val (.int (Int32.ofNat 1)), .val (.ref en), .val (.int (Int32.ofNat (SM css i))), .val (.ref nb), s6, s7, .unset, .unset] 6 (.int v) = some #[.val (.ref (A 0)), .val (.ref la), .val (.int (Int32.ofNat 1)), .val (.ref en), .val (.int (Int32.ofNat (SM css i))), .val (.ref nb), .val (.int v), s7, .unset, .unset] := fun v => by rcases hs6 with rfl | ⟨x, rfl⟩ <;> rfl
    refine g_istore C d21_106 (L' := #[.val (.ref (A 0)), .val (.ref la), .val (.int (Int32.ofNat 1)), .val (.ref en), .val (.int (Int32.ofNat (SM css i))), .val (.ref nb), .val (.int (0 : Int32)), s7, .unset, .unset]) (stS _) (q := 108) rfl ?_
    refine g_iconst C d21_108 (z := (0 : Int32)) rfl (q := 109) rfl ?_
    have stI_ : ∀ v, storeLocals #[.val (.ref (A 0)), .val (.ref la), .val (.int (Int32.ofNat 1)), .val (.ref en), .val (.int (Int32.ofNat (SM css i))), .val (.ref nb), .val (.int (0 : Int32)), s7, .unset, .unset] 7 (.int v) = some #[.val (.ref (A 0)), .val (.ref la), .val (.int (Int32.ofNat 1)), .val (.ref en), .val (.int (Int32.ofNat (SM css i))), .val (.ref nb), .val (.int (0 : Int32)), .val (.int v), .unset, .unset] := fun v => by rcases hs7 with rfl | ⟨x, rfl⟩ <;> rfl
    refine g_istore C d21_109 (L' := #[.val (.ref (A 0)), .val (.ref la), .val (.int (Int32.ofNat 1)), .val (.ref en), .val (.int (Int32.ofNat (SM css i))), .val (.ref nb), .val (.int (0 : Int32)), .val (.int (0 : Int32)), .unset, .unset]) (stI_ _) (q := 111) rfl ?_
    refine Go.more (k' := 12) (n' := 200) (by have q1 : rmAD.cells = 12 := rfl; have q2 : rmA1.cells = 1 := rfl; have q3 : rmK0.cells = 0 := rfl; have q4 : rmK1.cells = 0 := rfl; have q5 : rmC4.cells = 2 := rfl; omega) (by have q1 : rmAD.slots = 200 := rfl; have q2 : rmA1.slots = 10 := rfl; have q3 : rmK0.slots = 0 := rfl; have q4 : rmK1.slots = 0 := rfl; have q5 : rmC4.slots = 32 := rfl; omega) ?_
    exact Go.imp (loopAd l Z a0 G h2 n0 (fun i => if i = 8 then nb else A i) 1 i (by decide) hN css r la en e2 _ _ _ ge FL2 FE2 BE2.av hge BR2 (nin8 (exa_ne FL2.1 F2.1 (by decide)) (nla) (ela2) (Ne.symm (B32.ne_exa FL2.1 (wd14 hw))) (Ne.symm (B42.ne_exa FL2.1 (wd14 hw))) (Ne.symm (B52.ne_exa FL2.1 (wd14 hw))) (Ne.symm (B62.ne_exa FL2.1 (wd14 hw))) (Ne.symm (NB2.ne_exa FL2.1 (wd14 hw)))) (nin8 (Nat.ne_of_gt (Nat.lt_of_lt_of_le l0 gen)) (Nat.ne_of_gt (Nat.lt_of_lt_of_le l1 gen)) (Nat.ne_of_gt (Nat.lt_of_lt_of_le l2 gen)) (Nat.ne_of_gt (Nat.lt_of_lt_of_le l3 gen)) (Nat.ne_of_gt (Nat.lt_of_lt_of_le l4 gen)) (Nat.ne_of_gt (Nat.lt_of_lt_of_le l5 gen)) (Nat.ne_of_gt (Nat.lt_of_lt_of_le l6 gen)) (Ne.symm (NB2.ne_exa FE2.1 (wd14 hw)))) (nin8 (Nat.ne_of_gt (Nat.lt_of_lt_of_le l0 ge2)) (Nat.ne_of_gt (Nat.lt_of_lt_of_le l1 ge2)) (Nat.ne_of_gt (Nat.lt_of_lt_of_le l2 ge2)) (Nat.ne_of_gt (Nat.lt_of_lt_of_le l3 ge2)) (Nat.ne_of_gt (Nat.lt_of_lt_of_le l4 ge2)) (Nat.ne_of_gt (Nat.lt_of_lt_of_le l5 ge2)) (Nat.ne_of_gt (Nat.lt_of_lt_of_le l6 ge2)) (Ne.symm (NB2.ne_av BE2.av (by decide)))) (fun j hj => (nin8 (Nat.ne_of_gt (Nat.lt_of_lt_of_le l0 (hr j hj))) (Nat.ne_of_gt (Nat.lt_of_lt_of_le l1 (hr j hj))) (Nat.ne_of_gt (Nat.lt_of_lt_of_le l2 (hr j hj))) (Nat.ne_of_gt (Nat.lt_of_lt_of_le l3 (hr j hj))) (Nat.ne_of_gt (Nat.lt_of_lt_of_le l4 (hr j hj))) (Nat.ne_of_gt (Nat.lt_of_lt_of_le l5 (hr j hj))) (Nat.ne_of_gt (Nat.lt_of_lt_of_le l6 (hr j hj))) (nbA j hj))) (fun q hq => by
          obtain rfl | rfl | rfl | rfl | rfl | rfl | rfl : q = 0 ∨ q = 1 ∨ q = 2 ∨ q = 3 ∨ q = 4 ∨ q = 5 ∨ q = 6 := by omega
          · exact gA 0 (by decide)
          · exact gA 1 (by decide)
          · exact gA 2 (by decide)
          · exact gA 3 (by decide)
          · exact gA 4 (by decide)
          · exact gA 5 (by decide)
          · exact gA 6 (by decide)) (Nat.le_trans Z0 gnb0) h3 _ C i 0 h2 hd0 T0 sf0 (fun j => if j = 1 then SM css i else Lb0 j) (fun j => if j = 1 then (fun _ => .int 0) else cb0 j) (mc0 + 1) _ _ (by omega) (by omega) (Keep.refl _ _) XN rfl (fun j hj => rfl) (fun q hq hf => by have := (hK q hq).1; omega) (by omega) rfl (Or.inl rfl) (Or.inl rfl)) (fun s₂ v hQ => by
          obtain ⟨r1, r2, L, ⟨⟨r3, r4, T, sf, Lb, cb, mc, r5⟩, r6⟩, r7⟩ := hQ
          refine ⟨r1, r2, L, ⟨⟨r3, ?_, _, T, sf, Lb, cb, mc, r5, rfl, ?_⟩, r6⟩, r7⟩
          · refine (((Keep.refl h0 [A 0, A 1, A 2, A 3, A 4, A 5, A 6]).trans KK1 (by simp)).trans K2 (fun x hx => Or.inl (by simp at hx ⊢; rcases hx with h | h <;> simp [h]))).trans r4 (fun x hx => ?_)
            have hx' : x ∈ [A 0, A 1, (A 2), A 3, A 4, A 5, A 6, nb] := hx
            simp only [List.mem_cons, List.not_mem_nil, or_false] at hx' ⊢
            rcases hx' with h | h | h | h | h | h | h | h
            · exact Or.inl (Or.inl h)
            · exact Or.inl (Or.inr (Or.inl h))
            · exact Or.inl (Or.inr (Or.inr (Or.inl h)))
            · exact Or.inl (Or.inr (Or.inr (Or.inr (Or.inl h))))
            · exact Or.inl (Or.inr (Or.inr (Or.inr (Or.inr (Or.inl h)))))
            · exact Or.inl (Or.inr (Or.inr (Or.inr (Or.inr (Or.inr (Or.inl h))))))
            · exact Or.inl (Or.inr (Or.inr (Or.inr (Or.inr (Or.inr (Or.inr h))))))
            · rw [h]; exact Or.inr gnb0
          · intro q hq1 hq6
            obtain rfl | rfl | rfl | rfl | rfl | rfl : q = 1 ∨ q = 2 ∨ q = 3 ∨ q = 4 ∨ q = 5 ∨ q = 6 := by omega
            · exact Or.inl rfl
            · exact Or.inl rfl
            · exact Or.inl rfl
            · exact Or.inl rfl
            · exact Or.inl rfl
            · exact Or.inl rfl)
  | succ d ih =>
    have hi : i < N := by omega
    have FL1 := FL.keep KK (by simp)
    have BL1 := BL.keep KK (by simp)
    have SE1 := (hSE i hi).keep KK (by simp)
    have u6i := u6 (h3 i hi)
    have neIT : en ≠ it := exa_ne FE.1 IT.1 (by decide)
    have ne2I : e2 ≠ it := BE.av.ne_exa IT.1 (wd172 hw)
    have nen2 : en ≠ e2 := Ne.symm (BE.av.ne_exa FE.1 (wd14 hw))
    refine g_aload C d21_35 (v := (.ref it)) rfl rfl (q := 37) rfl ?_
    refine g_callF C (W := 0) (argsL := []) (rest := []) (a := it) d21_37 (wd186 hw) (wd187 hw) (wd188 hw) (wd189 hw) (wd190 hw) (wd191 hw) (wd192 hw) (wd193 hw) (by first | rfl | simp [Cond.onTables, Cond.keepsFace, Cond.keeps, Cond.steady]) (by decide) IT.1 (Ctr.bk (c_hasNext l Z a0 G h n0 la le_ it N i lr lm FL1 IT (by omega) (by omega)) C (wd194 hw) (wd173 hw) (by decide) (by decide)) (by have q1 : rmAD.cells = 12 := rfl; have q2 : rmA1.cells = 1 := rfl; have q3 : rmK0.cells = 0 := rfl; have q4 : rmK1.cells = 0 := rfl; have q5 : rmC4.cells = 2 := rfl; omega) (by have q1 : rmAD.slots = 200 := rfl; have q2 : rmA1.slots = 10 := rfl; have q3 : rmK0.slots = 0 := rfl; have q4 : rmK1.slots = 0 := rfl; have q5 : rmC4.slots = 32 := rfl; omega) rfl (lenOf pd32 rfl) rfl rfl (q := 42) rfl (fun v1 hx hQ1 => ?_)
    obtain ⟨rfl, r0, rfl, hA⟩ := hQ1
    refine ⟨[(.int r0)], rfl, ?_⟩
    obtain rfl : r0 = 1 := by
      rcases hA with ⟨-, q⟩ | ⟨q, -⟩
      · exact q
      · exact absurd (by omega) q
    refine g_if_eq C d21_42 (q' := 87) (q := 45) (by decide) (by decide) rfl (fun hy => absurd hy (by decide)) (fun hn => ?_)
    refine g_aload C d21_45 (v := (.ref it)) rfl rfl (q := 47) rfl ?_
    refine g_callF C (W := 0) (argsL := []) (rest := []) (a := it) d21_47 (wd198 hw) (wd199 hw) (wd200 hw) (wd201 hw) (wd202 hw) (wd203 hw) (wd204 hw) (wd193 hw) (by first | rfl | simp [Cond.onTables, Cond.keepsFace, Cond.keeps, Cond.steady]) (by decide) IT.1 (Ctr.bk (c_next l Z a0 G h n0 la le_ it N i lr lm FL1 IT (Nat.le_trans Z0 git) cap gl BL1 hi hNc hcap (xs i) (hgl i hi)) C (wd205 hw) (wd173 hw) (by decide) (by decide)) (by have q1 : rmAD.cells = 12 := rfl; have q2 : rmA1.cells = 1 := rfl; have q3 : rmK0.cells = 0 := rfl; have q4 : rmK1.cells = 0 := rfl; have q5 : rmC4.cells = 2 := rfl; omega) (by have q1 : rmAD.slots = 200 := rfl; have q2 : rmA1.slots = 10 := rfl; have q3 : rmK0.slots = 0 := rfl; have q4 : rmK1.slots = 0 := rfl; have q5 : rmC4.slots = 32 := rfl; omega) rfl (lenOf pd34 rfl) rfl rfl (q := 52) rfl (fun v1 h1 hQ1 => ?_)
    obtain ⟨rfl, K1, IT1⟩ := hQ1
    refine ⟨[(.ref (xs i))], rfl, ?_⟩
    have KK1 : Keep h0 h1 [] := KK.trans K1 (fun x hx => Or.inr (by cases List.mem_singleton.mp hx; exact git))
    have SE2 := (hSE i hi).keep KK1 (by simp)
    have X1' := Ext.keep X0 KK1 (by simp)
    refine g_castY C d21_52 (wd212 hw) (Ins.self SE2.exa) (q := 55) rfl ?_
    have stK : ∀ v : Addr, storeLocals #[.val (.ref (A 0)), .val (.ref la), .val (.int (Int32.ofNat 1)), .val (.ref en), .val (.int (Int32.ofNat (SM css i))), .val (.ref it), s6, s7, .unset, .unset] 6 (.ref v) = some #[.val (.ref (A 0)), .val (.ref la), .val (.int (Int32.ofNat 1)), .val (.ref en), .val (.int (Int32.ofNat (SM css i))), .val (.ref it), .val (.ref v), s7, .unset, .unset] := fun v => by rcases hs6 with rfl | ⟨x, rfl⟩ <;> rfl
    refine g_astore C d21_55 rfl (L' := #[.val (.ref (A 0)), .val (.ref la), .val (.int (Int32.ofNat 1)), .val (.ref en), .val (.int (Int32.ofNat (SM css i))), .val (.ref it), .val (.ref (xs i)), s7, .unset, .unset]) (stK _) (q := 57) rfl ?_
    refine g_aload C d21_57 (v := (.ref (xs i))) rfl rfl (q := 59) rfl ?_
    refine g_gets C d21_59 (host := "") (Or.inl (wd99 hw)) Via.refl (SU8.ext X1') (q := 62) rfl ?_
    refine g_callV C (W := 0) (argsL := [(.ref u)]) (rest := []) (a := (xs i)) d21_62 (wd101 hw) (wd102 hw) (wd104 hw) (wd103 hw) (by decide) (nf_of C (wd104 hw)) SE2.exa (Ctr.bk (c_getB l Z a0 G cz S0 hcz h1 n0 (Nat.le_trans Z0 KK1.1) u SI X1' (xs i) (css i) (by have := h3 i hi; omega) SE2) C (wd105 hw) (wd5 hw) (by decide) (by decide)) (by have q1 : rmAD.cells = 12 := rfl; have q2 : rmA1.cells = 1 := rfl; have q3 : rmK0.cells = 0 := rfl; have q4 : rmK1.cells = 0 := rfl; have q5 : rmC4.cells = 2 := rfl; omega) (by have q1 : rmAD.slots = 200 := rfl; have q2 : rmA1.slots = 10 := rfl; have q3 : rmK0.slots = 0 := rfl; have q4 : rmK1.slots = 0 := rfl; have q5 : rmC4.slots = 32 := rfl; omega) rfl (lenOf pd30 rfl) rfl rfl (q := 65) rfl (fun v2 h2 hQ2 => ?_)
    obtain ⟨rr, rfl, grr, K2, R2, ER2⟩ := hQ2
    refine ⟨[(.ref rr)], rfl, ?_⟩
    have stB7 : ∀ v : Addr, storeLocals #[.val (.ref (A 0)), .val (.ref la), .val (.int (Int32.ofNat 1)), .val (.ref en), .val (.int (Int32.ofNat (SM css i))), .val (.ref it), .val (.ref (xs i)), s7, .unset, .unset] 7 (.ref v) = some #[.val (.ref (A 0)), .val (.ref la), .val (.int (Int32.ofNat 1)), .val (.ref en), .val (.int (Int32.ofNat (SM css i))), .val (.ref it), .val (.ref (xs i)), .val (.ref v), .unset, .unset] := fun v => by rcases hs7 with rfl | ⟨x, rfl⟩ <;> rfl
    refine g_astore C d21_65 rfl (L' := #[.val (.ref (A 0)), .val (.ref la), .val (.int (Int32.ofNat 1)), .val (.ref en), .val (.int (Int32.ofNat (SM css i))), .val (.ref it), .val (.ref (xs i)), .val (.ref rr), .unset, .unset]) (stB7 _) (q := 67) rfl ?_
    refine g_aloadN C d21_67 (v := (.ref en)) rfl rfl (q := 68) rfl ?_
    refine g_aload C d21_68 (v := (.ref rr)) rfl rfl (q := 70) rfl ?_
    have KK2 : Keep h0 h2 [] := KK1.trans K2 (by simp)
    have FE2 := (FE.keep K1 (by simpa using neIT)).keep K2 (by simp)
    have BE2 := (BE.keep K1 (by simpa using ne2I)).keep K2 (by simp)
    have IT2 := IT1.keep K2 (by simp)
    have grr0 : h0.size ≤ rr := Nat.le_trans KK1.1 grr
    refine g_callF C (W := 0) (argsL := [(.ref rr)]) (rest := []) (a := en) d21_70 (wd214 hw) (wd40 hw) (wd41 hw) (wd42 hw) (wd43 hw) (wd44 hw) (wd45 hw) (wd46 hw) (by first | rfl | simp [Cond.onTables, Cond.keepsFace, Cond.keeps, Cond.steady]) (by decide) FE2.1 (Ctr.bk (c_addc l Z a0 G en e2 em i N ge h2 n0 (Nat.le_trans Z0 KK2.1) (Nat.le_trans Z0 gen) (Nat.le_trans Z0 ge2) FE2 BE2 hi (by omega) nen2 rr "[B" ER2 (wd215 hw)) C (wd47 hw) (wd15 hw) (by decide) (by decide)) (by have q1 : rmAD.cells = 12 := rfl; have q2 : rmA1.cells = 1 := rfl; have q3 : rmK0.cells = 0 := rfl; have q4 : rmK1.cells = 0 := rfl; have q5 : rmC4.cells = 2 := rfl; omega) (by have q1 : rmAD.slots = 200 := rfl; have q2 : rmA1.slots = 10 := rfl; have q3 : rmK0.slots = 0 := rfl; have q4 : rmK1.slots = 0 := rfl; have q5 : rmC4.slots = 32 := rfl; omega) rfl (lenOf pd33 rfl) rfl rfl (q := 75) rfl (fun v3 h3_ hQ3 => ?_)
    obtain ⟨rfl, K3, FE3, BE3⟩ := hQ3
    refine ⟨[(.int (1 : Int32))], rfl, ?_⟩
    have nrr1 : rr ≠ en := R2.ne_exa FE2.1 (wd14 hw)
    have nrr2 : rr ≠ e2 := R2.ne_av BE2.av (by decide)
    have R3 := R2.keep K3 (by simp [nrr1, nrr2])
    have KK3 : Keep h0 h3_ [] := KK2.trans K3 (fun x hx => Or.inr (by
      simp only [List.mem_cons, List.not_mem_nil, or_false] at hx
      rcases hx with h | h
      · rw [h]; exact gen
      · rw [h]; exact ge2))
    have IT3 := IT2.keep K3 (by simp [Ne.symm neIT, Ne.symm ne2I])
    refine g_pop C d21_75 rfl (q := 76) rfl ?_
    refine g_iload C d21_76 (v := (Int32.ofNat (SM css i))) rfl (q := 78) rfl ?_
    refine g_aload C d21_78 (v := (.ref rr)) rfl rfl (q := 80) rfl ?_
    refine g_alen C d21_80 R3 (z := (Int32.ofNat (u8 (css i)).length)) rfl (q := 81) rfl ?_
    refine g_iadd C d21_81 (q := 82) rfl ?_
    rw [of_add]
    refine g_istore C d21_82 (L' := #[.val (.ref (A 0)), .val (.ref la), .val (.int (Int32.ofNat 1)), .val (.ref en), .val (.int (Int32.ofNat (SM css i + (u8 (css i)).length))), .val (.ref it), .val (.ref (xs i)), .val (.ref rr), .unset, .unset]) rfl (q := 84) rfl ?_
    refine g_goto C d21_84 (q := 35) (by decide) (by decide) ?_
    refine Go.more (k' := 3 + 2 * (i + 1)) (n' := 30 + 32 * (i + 1)) (by have q3 : rmK0.cells = 0 := rfl; have q4 : rmK1.cells = 0 := rfl; have q5 : rmC4.cells = 2 := rfl; omega) (by have q3 : rmK0.slots = 0 := rfl; have q4 : rmK1.slots = 0 := rfl; have q5 : rmC4.slots = 32 := rfl; omega) ?_
    exact ih (i + 1) h3_ (fun j => if j = i then rr else r j) _ _ _ _ _ (by omega) (by omega) KK3 FE3 BE3 (fun j hj => by
          by_cases c1 : j = i
          · rw [if_pos c1]; simp only [if_pos c1]
          · rw [if_neg c1]; simp only [if_neg c1]; exact hge j (by omega)) IT3 (fun j hj => by
          by_cases c1 : j = i
          · subst c1; simp only [if_true]; exact ⟨ER2.keep K3, R3⟩
          · simp only [if_neg c1]
            have nj1 : r j ≠ it := (BR j (by omega)).2.ne_exa IT.1 (wd172 hw)
            have nj2 : r j ≠ en := (BR j (by omega)).2.ne_exa FE.1 (wd14 hw)
            have nj3 : r j ≠ e2 := (BR j (by omega)).2.ne_av BE.av (by decide)
            exact ⟨(((BR j (by omega)).1.keep K1).keep K2).keep K3, (((BR j (by omega)).2.keep K1 (by simpa using nj1)).keep K2 (by simp)).keep K3 (by simp [nj2, nj3])⟩) (fun j hj => by
          by_cases c1 : j = i
          · simp only [if_pos c1]; exact grr0
          · simp only [if_neg c1]; exact hr j (by omega)) (Or.inr ⟨_, rfl⟩) (Or.inr ⟨_, rfl⟩)
set_option maxRecDepth 65536 in
set_option maxHeartbeats 40000000 in
theorem c_add_1 (l : Launch) (Z : State) (a0 : Array Value) (G : Gl Z a0) (cz : Int32) (S0 : Sta Z Z.heap "java/lang/String" "COMPACT_STRINGS" "Z" (.int cz)) (hcz : ¬ cz = 0) (u : Addr) (SI : Sta Z Z.heap "sun/nio/cs/UTF_8" "INSTANCE" "Lsun/nio/cs/UTF_8;" (.ref u)) (SU8 : Sta Z Z.heap "java/nio/charset/StandardCharsets" "UTF_8" "Ljava/nio/charset/Charset;" (.ref u)) (h0 : Heap) (n0 : Nat) (Z0 : n0 ≤ h0.size) (X0 : Ext Z.heap h0) (A : Nat → Addr) (mc0 : Int32) (hd0 : HD) (T0 sf0 Lb0 : Nat → Nat) (cb0 : Nat → Nat → Value) (X : KX Z h0 A 1 mc0 hd0 T0 sf0 Lb0 cb0) (hc3 : hd0.length ≤ 3) (la le_ : Addr) (N cap : Nat) (gl : Nat → Value) (lm : Int32) (css : Nat → List Int32) (xs : Nat → Addr) (FL : ALF Z h0 la (.ref le_) (.int (Int32.ofNat N)) (.int lm)) (BL : Av Z h0 le_ (.object "java/lang/Object") cap gl) (hgl : ∀ j, j < N → gl j = .ref (xs j)) (hSE : ∀ j, j < N → SE Z h0 (xs j) (css j)) (h3 : ∀ j, j < N → (css j).length ≤ 3) (hN0 : 0 < N) (hN : N ≤ 3) (hNc : N ≤ cap) (hcap : cap ≤ 10) (nla : la ≠ A 1) (gA : ∀ i, i ≤ 6 → n0 ≤ A i) (gz : ∀ i, i ≤ 6 → Z.heap.size ≤ A i) (ki : Addr) (e0 : A 0 = ki) :
    Ctr l Z (⟨"com/example/recordweave/recordweave/store/KeyIndex", "add", "(Ljava/util/List;)I"⟩ : MethodName) prog_1_method_2_code 10 (some .int) rmAD #[(.ref ki), (.ref la)] h0 n0 (fun v h => v = some (.int (Int32.ofNat (adF css 1 N 0 hd0).2)) ∧ Keep h0 h [A 0, A 1, A 2, A 3, A 4, A 5, A 6] ∧ ∃ (A' : Nat → Addr) (T sf Lb : Nat → Nat) (cb : Nat → Nat → Value) (mc : Int32), KX Z h A' 2 mc (adF css 1 N 0 hd0).1 T sf Lb cb ∧ A' 0 = ki ∧ ∀ i, 1 ≤ i → i ≤ 6 → A' i = A i ∨ h0.size ≤ A' i) := by
  have hw := G.1
  subst e0
  have Xo := X
  obtain ⟨F, FA, BO, ⟨f3, B3, p3⟩, ⟨f4, B4, p4⟩, ⟨f5, B5, p5⟩, BT, BF, hI, hn6, hm2, hLb, hK, hD, hJ⟩ := X
  refine Ctr.of (n1 := n0) #[.val (.ref (A 0)), .val (.ref la), .unset, .unset, .unset, .unset, .unset, .unset, .unset, .unset] (plainFor_of_name pn12) (fun m => by first | (simp [entryFrame, mkF, argsToLocals, Value.category, maxLocals]; done) | rfl) ?_
  intro p e s m below meth c C
  refine g_aloadN C d21_0 (v := (.ref (A 0))) rfl rfl (q := 1) rfl ?_
  refine g_getf C d21_1 (host := "") (Or.inl (wd83 hw)) Via.refl F.2.1 (q := 4) rfl ?_
  refine g_callF C (W := 0) (argsL := []) (rest := []) (a := (A 1)) d21_4 (wd152 hw) (wd153 hw) (wd154 hw) (wd155 hw) (wd156 hw) (wd157 hw) (wd158 hw) (wd46 hw) (by first | rfl | simp [Cond.onTables, Cond.keepsFace, Cond.keeps, Cond.steady]) (by decide) FA.1 (Ctr.bk (c_alsize l Z a0 G (A 1) (Int32.ofNat 1) _ _ h0 n0 FA) C (wd159 hw) (wd15 hw) (by decide) (by decide)) (by decide) (by decide) rfl (lenOf pd31 rfl) rfl rfl (q := 9) rfl (fun v1 hx hQ1 => ?_)
  obtain ⟨rfl, rfl⟩ := hQ1
  refine ⟨[(.int (Int32.ofNat 1))], rfl, ?_⟩
  refine g_istoreN C d21_9 (L' := #[.val (.ref (A 0)), .val (.ref la), .val (.int (Int32.ofNat 1)), .unset, .unset, .unset, .unset, .unset, .unset, .unset]) rfl (q := 10) rfl ?_
  refine g_new C d21_10 (wd81 hw) (wd14 hw) (wd15 hw) (by decide) (by decide) (q := 13) rfl (fun en h1 q1 E1 A1 D1 => ?_)
  refine g_dup C d21_13 rfl (q := 14) rfl ?_
  refine g_aloadN C d21_14 (v := (.ref la)) rfl rfl (q := 15) rfl ?_
  have gen : h0.size ≤ en := by rw [q1]; exact Nat.le_refl _
  refine g_callF C (W := 2) (argsL := []) (rest := [(.ref en), (.ref en)]) (a := la) d21_15 (wd152 hw) (wd153 hw) (wd154 hw) (wd155 hw) (wd156 hw) (wd157 hw) (wd158 hw) (wd46 hw) (by first | rfl | simp [Cond.onTables, Cond.keepsFace, Cond.keeps, Cond.steady]) (by decide) (FL.ext E1).1 (Ctr.bk (c_alsize l Z a0 G la (Int32.ofNat N) _ _ h1 n0 (FL.ext E1)) C (wd159 hw) (wd15 hw) (by decide) (by decide)) (by decide) (by decide) rfl (lenOf pd31 rfl) rfl rfl (q := 20) rfl (fun v1 hx hQ1 => ?_)
  obtain ⟨rfl, rfl⟩ := hQ1
  refine ⟨[(.int (Int32.ofNat N)), (.ref en), (.ref en)], rfl, ?_⟩
  refine g_callI C (W := 1) (argsL := [(.int (Int32.ofNat N))]) (rest := [(.ref en)]) (a := en) d21_20 rfl (wd160 hw) (wd161 hw) (wd162 hw) (by decide) (Ctr.bk (c_alinitN l Z a0 G en _ _ _ N hN0 hN h1 n0 (Nat.le_trans Z0 gen) ⟨A1, D1 (Or.inl (wd38 hw)) (ty := (.array (.object "java/lang/Object"))) (by decide), D1 (Or.inl (wd51 hw)) (ty := .int) (by decide), D1 (Or.inl (wd35 hw)) (ty := .int) (by decide)⟩) C (wd162 hw) (wd15 hw) (by decide) (by decide)) (by decide) (by decide) rfl (lenOf pd29 rfl) rfl rfl (q := 23) rfl (fun v2 h2 hQ2 => ?_)
  obtain ⟨rfl, e2, ge2, K2, FE2, BE2⟩ := hQ2
  refine ⟨[(.ref en)], rfl, ?_⟩
  have KK2 : Keep h0 h2 [] := (Ext.kp E1 []).trans K2 (fun x hx => Or.inr (by cases List.mem_singleton.mp hx; exact gen))
  refine g_astoreN C d21_23 rfl (L' := #[.val (.ref (A 0)), .val (.ref la), .val (.int (Int32.ofNat 1)), .val (.ref en), .unset, .unset, .unset, .unset, .unset, .unset]) rfl (q := 24) rfl ?_
  refine g_iconst C d21_24 (z := (0 : Int32)) rfl (q := 25) rfl ?_
  refine g_istore C d21_25 (L' := #[.val (.ref (A 0)), .val (.ref la), .val (.int (Int32.ofNat 1)), .val (.ref en), .val (.int (0 : Int32)), .unset, .unset, .unset, .unset, .unset]) rfl (q := 27) rfl ?_
  refine g_aloadN C d21_27 (v := (.ref la)) rfl rfl (q := 28) rfl ?_
  refine g_callF C (W := 0) (argsL := []) (rest := []) (a := la) d21_28 (wd163 hw) (wd164 hw) (wd165 hw) (wd166 hw) (wd167 hw) (wd168 hw) (wd169 hw) (wd46 hw) (by first | rfl | simp [Cond.onTables, Cond.keepsFace, Cond.keeps, Cond.steady]) (by decide) (FL.keep KK2 (by simp)).1 (Ctr.bk (c_iter l Z a0 G h2 n0 (Nat.le_trans Z0 KK2.1) la _ _ lm (FL.keep KK2 (by simp))) C (wd170 hw) (wd15 hw) (by decide) (by decide)) (by decide) (by decide) rfl (lenOf pd35 rfl) rfl rfl (q := 33) rfl (fun v3 h3' hQ3 => ?_)
  obtain ⟨it, rfl, git, K3, IT3⟩ := hQ3
  refine ⟨[(.ref it)], rfl, ?_⟩
  refine g_astore C d21_33 rfl (L' := #[.val (.ref (A 0)), .val (.ref la), .val (.int (Int32.ofNat 1)), .val (.ref en), .val (.int (0 : Int32)), .val (.ref it), .unset, .unset, .unset, .unset]) rfl (q := 35) rfl ?_
  refine Go.more (k' := 3 + 2 * 0) (n' := 30 + 32 * 0) (by decide) (by decide) ?_
  exact loopEn1 l Z a0 G cz S0 hcz u SI SU8 h0 n0 Z0 X0 A mc0 hd0 T0 sf0 Lb0 cb0 Xo hc3 la le_ N cap gl lm css xs FL BL hgl hSE h3 hN0 hN hNc hcap nla gA gz C en e2 it gen (Nat.le_trans E1.1 ge2) (Nat.le_trans KK2.1 git) N 0 h3' (fun _ => 0) _ _ _ _ _ (by omega) (by omega) (KK2.trans K3 (by simp)) (FE2.keep K3 (by simp)) (BE2.keep K3 (by simp)) (fun j hj => absurd hj (by omega)) IT3 (fun j hj => absurd hj (by omega)) (fun j hj => absurd hj (by omega)) (Or.inl rfl) (Or.inl rfl)
def look : HD → List Int32 → Int32
  | [], _ => -1
  | x :: t, ks => if x.1 = ks then Int32.ofNat x.2 else look t ks
theorem look_of {ks : List Int32} {r : Int32} : ∀ {hd : HD}, (∀ i j, i < hd.length → j < hd.length → kyx hd i = kyx hd j → i = j) → FOx hd ks r → r = look hd ks
  | [], _, h => by
    rcases h with ⟨i, hi, -⟩ | ⟨-, h⟩
    · exact absurd hi (by simp)
    · exact h
  | x :: t, dis, h => by
    have e0 : kyx (x :: t) 0 = x.1 := rfl
    have dis' : ∀ i j, i < t.length → j < t.length → kyx t i = kyx t j → i = j := fun i j hi hj e => by
      have := dis (i + 1) (j + 1) (by simpa using hi) (by simpa using hj) e; omega
    rcases h with ⟨i, hi, hk, hr⟩ | ⟨hn, hr⟩
    · cases i with
      | zero => show r = if x.1 = ks then Int32.ofNat x.2 else look t ks
                have hk' : x.1 = ks := hk
                rw [if_pos hk']; exact hr
      | succ i =>
        have hi' : i < t.length := by simpa using hi
        have ne : ¬ x.1 = ks := fun q => by have := dis 0 (i + 1) (by simp) hi (q.trans hk.symm); omega
        show r = if x.1 = ks then Int32.ofNat x.2 else look t ks
        rw [if_neg ne]
        exact look_of dis' (Or.inl ⟨i, hi', hk, hr⟩)
    · have ne : ¬ x.1 = ks := hn 0 (by simp)
      show r = if x.1 = ks then Int32.ofNat x.2 else look t ks
      rw [if_neg ne]
      exact look_of dis' (Or.inr ⟨fun i hi => hn (i + 1) (by simpa using hi), hr⟩)
theorem rem_nat {x : Int32} {n : Nat} (h0 : 0 ≤ x.toInt) (hn : 0 < n) (h31 : n < 2 ^ 31) : ∃ K, K < n ∧ x % Int32.ofNat n = Int32.ofNat K := by
  obtain ⟨m, hm⟩ := Int.eq_ofNat_of_zero_le h0
  refine ⟨m % n, Nat.mod_lt _ hn, ?_⟩
  apply Int32.toInt_inj.mp
  have hm2 : m % n < n := Nat.mod_lt _ hn
  rw [Int32.toInt_mod, Int32.toInt_ofNat_of_lt h31, Int32.toInt_ofNat_of_lt (by omega), Int.tmod_eq_emod_of_nonneg h0, hm]
  rfl
theorem and_nn (x : Int32) : 0 ≤ (x &&& (2147483647 : Int32)).toInt := by
  have h : (x &&& 2147483647).toBitVec.toNat ≤ 2147483647 := by
    simp only [Int32.toBitVec_and, BitVec.toNat_and]
    exact Nat.and_le_right
  show 0 ≤ (x &&& 2147483647).toBitVec.toInt
  rw [BitVec.toInt_eq_toNat_of_lt (by omega)]
  omega
theorem u8_iff {cs ds : List Int32} (hc : ∀ c ∈ cs, BY c) (hd : ∀ c ∈ ds, BY c) : u8 cs = u8 ds ↔ cs = ds := ⟨u8_inj hc hd, fun q => by rw [q]⟩
theorem KX.inv {Z : State} {h : Heap} {A : Nat → Addr} {m : Nat} {mc : Int32} {hd : HD} {T sf Lb : Nat → Nat} {cb : Nat → Nat → Value} (X : KX Z h A m mc hd T sf Lb cb) : Inv T hd := by
  obtain ⟨-, -, -, -, -, -, -, -, r, -⟩ := X; exact r
theorem c_fileL (l : Launch) (Z : State) (a0 : Array Value) (G : Gl Z a0) (cz : Int32) (S0 : Sta Z Z.heap "java/lang/String" "COMPACT_STRINGS" "Z" (.int cz)) (hcz : ¬ cz = 0) (u : Addr) (SI : Sta Z Z.heap "sun/nio/cs/UTF_8" "INSTANCE" "Lsun/nio/cs/UTF_8;" (.ref u)) (SU8 : Sta Z Z.heap "java/nio/charset/StandardCharsets" "UTF_8" "Ljava/nio/charset/Charset;" (.ref u)) (h0 : Heap) (n0 : Nat) (Z0 : n0 ≤ h0.size) (X0 : Ext Z.heap h0) (A : Nat → Addr) (mm : Nat) (mc : Int32) (hd : HD) (T sf Lb : Nat → Nat) (cb : Nat → Nat → Value) (X : KX Z h0 A mm mc hd T sf Lb cb) (ki : Addr) (e0 : A 0 = ki) (a : Addr) (cs : List Int32) (h3 : cs.length ≤ 3) (S : SE Z h0 a cs) :
    Ctr l Z (⟨"com/example/recordweave/recordweave/store/KeyIndex", "fileOf", "(Ljava/lang/String;)I"⟩ : MethodName) prog_1_method_3_code 4 (some .int) rmFO #[(.ref ki), (.ref a)] h0 n0 (fun v h => Keep h0 h [] ∧ v = some (.int (look hd (u8 cs)))) :=
  Ctr.imp (c_fileOf l Z a0 G cz S0 hcz u SI SU8 h0 n0 Z0 X0 A mm mc hd T sf Lb cb X ki e0 a cs h3 S) (fun v h q => by
    obtain ⟨q1, r, q2, q3⟩ := q
    exact ⟨q1, by rw [q2, look_of X.inv.2.2.2 q3]⟩)
theorem look_app {hd : HD} {x : List Int32 × Nat} {ks : List Int32} : look (hd ++ [x]) ks = if hd.any (fun y => decide (y.1 = ks)) = true then look hd ks else if x.1 = ks then Int32.ofNat x.2 else -1 := by
  induction hd with
  | nil => simp [look]
  | cons y t ih =>
    show (if y.1 = ks then Int32.ofNat y.2 else look (t ++ [x]) ks) = _
    by_cases c1 : y.1 = ks
    · rw [if_pos c1, if_pos (by simp [c1])]; simp [look, c1]
    · rw [if_neg c1, ih]
      have e : (y :: t).any (fun y => decide (y.1 = ks)) = t.any (fun y => decide (y.1 = ks)) := by simp [c1]
      rw [e, show look (y :: t) ks = look t ks from by simp [look, c1]]
theorem any_app {hd : HD} {x : List Int32 × Nat} {ks : List Int32} : (hd ++ [x]).any (fun y => decide (y.1 = ks)) = true ↔ (hd.any (fun y => decide (y.1 = ks)) = true ∨ x.1 = ks) := by simp

theorem m2p1 {s0 s1 : List Int32} (b0 : ∀ c ∈ s0, BY c) (b1 : ∀ c ∈ s1, BY c) : (adF (fun j => [s0, s1].getD j []) 0 2 0 []).2 = (if s1 = s0 then 1 else 2) ∧ (adF (fun j => [s0, s1].getD j []) 0 2 0 []).1.length ≤ 3 ∧ (∀ ks, look (adF (fun j => [s0, s1].getD j []) 0 2 0 []).1 ks = if ks = u8 s0 ∨ ks = u8 s1 then 0 else -1) ∧ (∀ ks, (adF (fun j => [s0, s1].getD j []) 0 2 0 []).1.any (fun x => decide (x.1 = ks)) = true ↔ (ks = u8 s0 ∨ ks = u8 s1)) := by
  have e : adF (fun j => [s0, s1].getD j []) 0 2 0 [] = if s1 = s0 then ([(u8 s0, 0)], 1) else ([(u8 s0, 0), (u8 s1, 0)], 2) := by
    show (if ([] : HD).any _ = true then _ else (if ([] ++ [(u8 s0, 0)] : HD).any (fun x => decide (x.1 = u8 s1)) = true then (([] ++ [(u8 s0, 0)] : HD), 1) else ([] ++ [(u8 s0, 0)] ++ [(u8 s1, 0)], 2))) = _
    rw [if_neg (by simp)]
    by_cases c1 : s1 = s0
    · rw [if_pos (by simp [c1]), if_pos c1]; rfl
    · have c2 : ¬ u8 s0 = u8 s1 := fun q => c1 (u8_inj b1 b0 q.symm)
      rw [if_neg (by simp [c2]), if_neg c1]; rfl
  rw [e]
  by_cases c1 : s1 = s0
  · rw [if_pos c1]
    refine ⟨by rw [if_pos c1], by simp, fun ks => ?_, fun ks => ?_⟩
    · by_cases c2 : ks = u8 s0
      · simp [look, c1, c2]
      · have c3 : ¬ u8 s0 = ks := fun q => c2 q.symm
        simp [look, c1, c2, c3]
    · subst c1
      constructor
      · intro q; simp at q; exact Or.inl q.symm
      · intro q; simp; rcases q with q | q <;> exact q.symm
  · rw [if_neg c1]
    refine ⟨by rw [if_neg c1], by simp, fun ks => ?_, fun ks => ?_⟩
    · by_cases c2 : ks = u8 s0
      · simp [look, c2]
      · have c3 : ¬ u8 s0 = ks := fun q => c2 q.symm
        by_cases c4 : ks = u8 s1
        · simp [look, c3, c4]
        · have c5 : ¬ u8 s1 = ks := fun q => c4 q.symm
          simp [look, c2, c3, c4, c5]
    · constructor
      · intro q; simp at q; exact q.imp Eq.symm Eq.symm
      · intro q; simp; exact q.imp Eq.symm Eq.symm
theorem m2p2 {s0 s1 s2 : List Int32} {hd : HD} (b0 : ∀ c ∈ s0, BY c) (b1 : ∀ c ∈ s1, BY c) (b2 : ∀ c ∈ s2, BY c) (lk : ∀ ks, look hd ks = if ks = u8 s0 ∨ ks = u8 s1 then 0 else -1) (an : ∀ ks, hd.any (fun x => decide (x.1 = ks)) = true ↔ (ks = u8 s0 ∨ ks = u8 s1)) : (adF (fun j => [s2].getD j []) 1 1 0 hd).2 = (if s2 = s0 ∨ s2 = s1 then 0 else 1) ∧ (∀ ks, look (adF (fun j => [s2].getD j []) 1 1 0 hd).1 ks = if ks = u8 s0 ∨ ks = u8 s1 then 0 else if ks = u8 s2 then 1 else -1) := by
  have ef : adF (fun j => [s2].getD j []) 1 1 0 hd = if hd.any (fun x => decide (x.1 = u8 s2)) = true then (hd, 0) else (hd ++ [(u8 s2, 1)], 1) := rfl
  rw [ef]
  have an2 : hd.any (fun x => decide (x.1 = u8 s2)) = true ↔ (s2 = s0 ∨ s2 = s1) := by rw [an, u8_iff b2 b0, u8_iff b2 b1]
  by_cases c1 : s2 = s0 ∨ s2 = s1
  · rw [if_pos (an2.mpr c1)]
    refine ⟨by rw [if_pos c1], fun ks => ?_⟩
    show look hd ks = _
    rw [lk]
    by_cases c2 : ks = u8 s0 ∨ ks = u8 s1
    · rw [if_pos c2, if_pos c2]
    · have c3 : ¬ ks = u8 s2 := fun q => c2 (by rcases c1 with h | h <;> rw [h] at q; exact Or.inl q; exact Or.inr q)
      rw [if_neg c2, if_neg c2, if_neg c3]
  · rw [if_neg (fun q => c1 (an2.mp q))]
    refine ⟨by rw [if_neg c1], fun ks => ?_⟩
    show look (hd ++ [(u8 s2, 1)]) ks = _
    rw [look_app]
    by_cases c2 : ks = u8 s0 ∨ ks = u8 s1
    · rw [if_pos ((an ks).mpr c2), if_pos c2, lk, if_pos c2]
    · rw [if_neg (fun q => c2 ((an ks).mp q)), if_neg c2]
      by_cases c3 : ks = u8 s2
      · rw [if_pos c3, if_pos c3.symm]; rfl
      · rw [if_neg c3, if_neg (fun q => c3 q.symm)]
set_option maxRecDepth 65536 in
set_option maxHeartbeats 40000000 in
theorem c_law (l : Launch) (Z : State) (a0 : Array Value) (G : Gl Z a0) (cz : Int32) (S0 : Sta Z Z.heap "java/lang/String" "COMPACT_STRINGS" "Z" (.int cz)) (hcz : ¬ cz = 0) (u : Addr) (SI : Sta Z Z.heap "sun/nio/cs/UTF_8" "INSTANCE" "Lsun/nio/cs/UTF_8;" (.ref u)) (SU8 : Sta Z Z.heap "java/nio/charset/StandardCharsets" "UTF_8" "Ljava/nio/charset/Charset;" (.ref u)) (De : Addr) (SD : Sta Z Z.heap "java/util/ArrayList" "DEFAULTCAPACITY_EMPTY_ELEMENTDATA" "[Ljava/lang/Object;" (.ref De)) (fD : Nat → Value) (AD : Av Z Z.heap De (.object "java/lang/Object") 0 fD) (p0 p1 p2 p3 p4 : Int32) (h0 : Heap) (n0 : Nat) (Z0 : n0 ≤ h0.size) (X0 : Ext Z.heap h0) :
    CtrW l Z Jvm.Pilot.@@N@@.x code maxLocals ret room_1 #[(.int p0), (.int p1), (.int p2), (.int p3), (.int p4)] h0 n0 (fun vm => CHv Z ELs vm h0) (fun v vm h => v = some (.int 1)) := by
  have hw := G.1
  refine CtrW.of (n1 := n0) #[.val (.int p0), .val (.int p1), .val (.int p2), .val (.int p3), .val (.int p4), .unset, .unset, .unset, .unset, .unset, .unset, .unset, .unset, .unset, .unset, .unset, .unset, .unset, .unset] (plainFor_of_name pn3) (fun m => by first | (simp [entryFrame, mkF, argsToLocals, Value.category, maxLocals]; done) | rfl) ?_
  intro p e s0 vm0 m below meth c C hs0 hP0 Sw
  have C : Cx p (s0.setVm vm0) m meth c Z "com/example/recordweave/recordweave/store/KeyIndexFileOfPinLaw" "law" code 19 (some .boolean) := C
  refine g_iloadN C at_0 (v := p0) rfl (q := 1) rfl ?_
  refine g_callSW C (W := 0) (argsL := [(.int p0)]) (rest := []) Sw at_1 (wd0 hw) (wd1 hw) (wd2 hw) (wd3 hw) (by decide) (c_key l Z a0 G cz S0 hcz p0 h0 n0 Z0 X0) (by decide) (by decide) (by decide) (by decide) rfl (lenOf pd36 rfl) rfl rfl (q := 4) rfl (fun vm' hW' => (CHv.warm39 (a0 := a0) C.2.2.2.2.1 G.2 hP0 hW').1) (fun vk0 vmk0 hk0 hQk0 Ck0 Swk0 hW39k0 => ?_)
  obtain ⟨k0, t0, rfl, Kk0, SS0, l0, H0⟩ := hQk0
  refine ⟨[(.ref k0)], rfl, ?_⟩
  have Xk0 := Ext.keep X0 Kk0 (by simp)
  have Zk0 : n0 ≤ hk0.size := Nat.le_trans Z0 Kk0.1
  refine g_astore Ck0 at_4 rfl (L' := #[.val (.int p0), .val (.int p1), .val (.int p2), .val (.int p3), .val (.int p4), .val (.ref k0), .unset, .unset, .unset, .unset, .unset, .unset, .unset, .unset, .unset, .unset, .unset, .unset, .unset]) rfl (q := 6) rfl ?_
  refine g_iloadN Ck0 at_6 (v := p1) rfl (q := 7) rfl ?_
  refine g_callSW Ck0 (W := 0) (argsL := [(.int p1)]) (rest := []) Swk0 at_7 (wd0 hw) (wd1 hw) (wd2 hw) (wd3 hw) (by decide) (c_key l Z a0 G cz S0 hcz p1 hk0 n0 Zk0 Xk0) (by decide) (by decide) (by decide) (by decide) rfl (lenOf pd36 rfl) rfl rfl (q := 10) rfl (fun vm' hW' => (CHv.warm39 (a0 := a0) Ck0.2.2.2.2.1 G.2 H0 hW').1) (fun vk1 vmk1 hk1 hQk1 Ck1 Swk1 hW39k1 => ?_)
  obtain ⟨k1, t1, rfl, Kk1, SS1, l1, H1⟩ := hQk1
  refine ⟨[(.ref k1)], rfl, ?_⟩
  have Xk1 := Ext.keep Xk0 Kk1 (by simp)
  have Zk1 : n0 ≤ hk1.size := Nat.le_trans Zk0 Kk1.1
  have SS0 := SS0.keep Kk1 (by simp)
  refine g_astore Ck1 at_10 rfl (L' := #[.val (.int p0), .val (.int p1), .val (.int p2), .val (.int p3), .val (.int p4), .val (.ref k0), .val (.ref k1), .unset, .unset, .unset, .unset, .unset, .unset, .unset, .unset, .unset, .unset, .unset, .unset]) rfl (q := 12) rfl ?_
  refine g_iloadN Ck1 at_12 (v := p2) rfl (q := 13) rfl ?_
  refine g_callSW Ck1 (W := 0) (argsL := [(.int p2)]) (rest := []) Swk1 at_13 (wd0 hw) (wd1 hw) (wd2 hw) (wd3 hw) (by decide) (c_key l Z a0 G cz S0 hcz p2 hk1 n0 Zk1 Xk1) (by decide) (by decide) (by decide) (by decide) rfl (lenOf pd36 rfl) rfl rfl (q := 16) rfl (fun vm' hW' => (CHv.warm39 (a0 := a0) Ck1.2.2.2.2.1 G.2 H1 hW').1) (fun vk2 vmk2 hk2 hQk2 Ck2 Swk2 hW39k2 => ?_)
  obtain ⟨k2, t2, rfl, Kk2, SS2, l2, H2⟩ := hQk2
  refine ⟨[(.ref k2)], rfl, ?_⟩
  have Xk2 := Ext.keep Xk1 Kk2 (by simp)
  have Zk2 : n0 ≤ hk2.size := Nat.le_trans Zk1 Kk2.1
  have SS0 := SS0.keep Kk2 (by simp)
  have SS1 := SS1.keep Kk2 (by simp)
  refine g_astore Ck2 at_16 rfl (L' := #[.val (.int p0), .val (.int p1), .val (.int p2), .val (.int p3), .val (.int p4), .val (.ref k0), .val (.ref k1), .val (.ref k2), .unset, .unset, .unset, .unset, .unset, .unset, .unset, .unset, .unset, .unset, .unset]) rfl (q := 18) rfl ?_
  refine g_iloadN Ck2 at_18 (v := p3) rfl (q := 19) rfl ?_
  refine g_callSW Ck2 (W := 0) (argsL := [(.int p3)]) (rest := []) Swk2 at_19 (wd0 hw) (wd1 hw) (wd2 hw) (wd3 hw) (by decide) (c_key l Z a0 G cz S0 hcz p3 hk2 n0 Zk2 Xk2) (by decide) (by decide) (by decide) (by decide) rfl (lenOf pd36 rfl) rfl rfl (q := 22) rfl (fun vm' hW' => (CHv.warm39 (a0 := a0) Ck2.2.2.2.2.1 G.2 H2 hW').1) (fun vk3 vmk3 hk3 hQk3 Ck3 Swk3 hW39k3 => ?_)
  obtain ⟨k3, t3, rfl, Kk3, SS3, l3, H3⟩ := hQk3
  refine ⟨[(.ref k3)], rfl, ?_⟩
  have Xk3 := Ext.keep Xk2 Kk3 (by simp)
  have Zk3 : n0 ≤ hk3.size := Nat.le_trans Zk2 Kk3.1
  have SS0 := SS0.keep Kk3 (by simp)
  have SS1 := SS1.keep Kk3 (by simp)
  have SS2 := SS2.keep Kk3 (by simp)
  have KS : Keep hk3 hk3 [] := Keep.refl _ _
  refine g_astore Ck3 at_22 rfl (L' := #[.val (.int p0), .val (.int p1), .val (.int p2), .val (.int p3), .val (.int p4), .val (.ref k0), .val (.ref k1), .val (.ref k2), .val (.ref k3), .unset, .unset, .unset, .unset, .unset, .unset, .unset, .unset, .unset, .unset]) rfl (q := 24) rfl ?_
  refine g_iload Ck3 at_24 (v := p4) rfl (q := 26) rfl ?_
  refine g_ldcInt Ck3 at_26 (wd12 hw) (q := 28) rfl ?_
  refine g_iand Ck3 at_28 (q := 29) rfl ?_
  refine g_iconst Ck3 at_29 (z := (3 : Int32)) rfl (q := 30) rfl ?_
  refine g_irem Ck3 at_30 (by decide) (q := 31) rfl ?_
  obtain ⟨K, hK, eK⟩ : ∃ K, K < 3 ∧ ((p4 &&& (2147483647 : Int32)) % (3 : Int32)) = Int32.ofNat K := rem_nat (n := 3) (and_nn _) (by decide) (by decide)
  rw [eK]
  have Xn := Xk3
  have Zn := Zk3
  refine g_istore Ck3 at_31 (L' := #[.val (.int p0), .val (.int p1), .val (.int p2), .val (.int p3), .val (.int p4), .val (.ref k0), .val (.ref k1), .val (.ref k2), .val (.ref k3), .val (.int (Int32.ofNat K)), .unset, .unset, .unset, .unset, .unset, .unset, .unset, .unset, .unset]) rfl (q := 33) rfl ?_
  refine g_new Ck3 at_33 (wd13 hw) (wd14 hw) (wd15 hw) (by decide) (by decide) (q := 36) rfl (fun l_0 ha0 qa0 Ea0 Aa0 Da0 => ?_)
  refine g_dup Ck3 at_36 rfl (q := 37) rfl ?_
  have gl0 : hk3.size ≤ l_0 := by rw [qa0]; exact KS.1
  have gln0 : n0 ≤ l_0 := Nat.le_trans Zk3 gl0
  have glz0 : Z.heap.size ≤ l_0 := Nat.le_trans Xk3.1 gl0
  have KS : Keep hk3 ha0 [] := KS.trans (Ext.kp Ea0 []) (by simp)
  have Xn := Ext.tr Xn Ea0
  refine g_callI Ck3 (W := 1) (argsL := []) (rest := [(.ref l_0)]) (a := l_0) at_37 rfl (wd16 hw) (wd17 hw) (wd18 hw) (by decide) (Ctr.bk (c_alinit l Z a0 G l_0 _ _ _ ha0 n0 gln0 ⟨Aa0, Da0 (Or.inl (wd38 hw)) (ty := (.array (.object "java/lang/Object"))) (by decide), Da0 (Or.inl (wd51 hw)) (ty := .int) (by decide), Da0 (Or.inl (wd35 hw)) (ty := .int) (by decide)⟩ De SD Xn glz0) Ck3 (wd18 hw) (wd15 hw) (by decide) (by decide)) (by decide) (by decide) rfl (lenOf pd19 rfl) rfl rfl (q := 40) rfl (fun vb0 hb0 hQb0 => ?_)
  obtain ⟨rfl, Kb0, FL0⟩ := hQb0
  refine ⟨[(.ref l_0)], rfl, ?_⟩
  have KS : Keep hk3 hb0 [] := KS.trans Kb0 (fun x hx => Or.inr (by cases List.mem_singleton.mp hx; exact gl0))
  have Xn := Ext.keep Xn Kb0 (fun x hx => by cases List.mem_singleton.mp hx; exact glz0)
  refine g_astore Ck3 at_40 rfl (L' := #[.val (.int p0), .val (.int p1), .val (.int p2), .val (.int p3), .val (.int p4), .val (.ref k0), .val (.ref k1), .val (.ref k2), .val (.ref k3), .val (.int (Int32.ofNat K)), .val (.ref l_0), .unset, .unset, .unset, .unset, .unset, .unset, .unset, .unset]) rfl (q := 42) rfl ?_
  refine g_aload Ck3 at_42 (v := (.ref l_0)) rfl rfl (q := 44) rfl ?_
  refine g_aload Ck3 at_44 (v := (.ref k0)) rfl rfl (q := 46) rfl ?_
  have Sx := SS0.keep KS (by simp)
  refine g_callF Ck3 (W := 0) (argsL := [(.ref k0)]) (rest := []) (a := l_0) at_46 (wd39 hw) (wd40 hw) (wd41 hw) (wd42 hw) (wd43 hw) (wd44 hw) (wd45 hw) (wd46 hw) (by first | rfl | simp [Cond.onTables, Cond.keepsFace, Cond.keeps, Cond.steady]) (by decide) FL0.1 (Ctr.bk (c_adda l Z a0 G l_0 0 hb0 n0 (Nat.le_trans Zk3 KS.1) gln0 De SD fD AD Xn FL0 k0 "java/lang/String" Sx.exa (wd73 hw) glz0) Ck3 (wd47 hw) (wd15 hw) (by decide) (by decide)) (by decide) (by decide) rfl (lenOf pd33 rfl) rfl rfl (q := 51) rfl (fun vc hc0_0 hQc => ?_)
  obtain ⟨rfl, ed0, ged0, Kc0_0, FL0, BL0⟩ := hQc
  refine ⟨[(.int (1 : Int32))], rfl, ?_⟩
  have gen0 : hk3.size ≤ ed0 := Nat.le_trans KS.1 ged0
  have nle0 : l_0 ≠ ed0 := Ne.symm (BL0.av.ne_exa FL0.1 (wd14 hw))
  have KS : Keep hk3 hc0_0 [] := KS.trans Kc0_0 (fun x hx => Or.inr (by cases List.mem_singleton.mp hx; exact gl0))
  have Xn := Ext.keep Xn Kc0_0 (fun x hx => by cases List.mem_singleton.mp hx; exact glz0)
  refine g_pop Ck3 at_51 rfl (q := 52) rfl ?_
  refine g_aload Ck3 at_52 (v := (.ref l_0)) rfl rfl (q := 54) rfl ?_
  refine g_aload Ck3 at_54 (v := (.ref k1)) rfl rfl (q := 56) rfl ?_
  have Sx := SS1.keep KS (by simp)
  refine g_callF Ck3 (W := 0) (argsL := [(.ref k1)]) (rest := []) (a := l_0) at_56 (wd39 hw) (wd40 hw) (wd41 hw) (wd42 hw) (wd43 hw) (wd44 hw) (wd45 hw) (wd46 hw) (by first | rfl | simp [Cond.onTables, Cond.keepsFace, Cond.keeps, Cond.steady]) (by decide) FL0.1 (Ctr.bk (c_addb l Z a0 G l_0 ed0 _ 1 _ hc0_0 n0 (Nat.le_trans Zk3 KS.1) gln0 (Nat.le_trans Zk3 gen0) FL0 BL0 (by decide) nle0 k1 "java/lang/String" Sx.exa (wd73 hw)) Ck3 (wd47 hw) (wd15 hw) (by decide) (by decide)) (by decide) (by decide) rfl (lenOf pd33 rfl) rfl rfl (q := 61) rfl (fun vc hc0_1 hQc => ?_)
  obtain ⟨rfl, Kc0_1, FL0, BL0⟩ := hQc
  refine ⟨[(.int (1 : Int32))], rfl, ?_⟩
  have KS : Keep hk3 hc0_1 [] := KS.trans Kc0_1 (fun x hx => Or.inr (by
    simp only [List.mem_cons, List.not_mem_nil, or_false] at hx
    rcases hx with h | h
    · rw [h]; exact gl0
    · rw [h]; exact gen0))
  have Xn := Ext.keep Xn Kc0_1 (fun x hx => (by
    simp only [List.mem_cons, List.not_mem_nil, or_false] at hx
    rcases hx with h | h
    · rw [h]; exact glz0
    · rw [h]; exact Nat.le_trans Xk3.1 gen0))
  refine g_pop Ck3 at_61 rfl (q := 62) rfl ?_
  refine g_new Ck3 at_62 (wd13 hw) (wd14 hw) (wd15 hw) (by decide) (by decide) (q := 65) rfl (fun l_1 ha1 qa1 Ea1 Aa1 Da1 => ?_)
  refine g_dup Ck3 at_65 rfl (q := 66) rfl ?_
  have gl1 : hk3.size ≤ l_1 := by rw [qa1]; exact KS.1
  have gln1 : n0 ≤ l_1 := Nat.le_trans Zk3 gl1
  have glz1 : Z.heap.size ≤ l_1 := Nat.le_trans Xk3.1 gl1
  have KS : Keep hk3 ha1 [] := KS.trans (Ext.kp Ea1 []) (by simp)
  have Xn := Ext.tr Xn Ea1
  have nl0_1 : l_0 ≠ l_1 := by rw [qa1]; exact Nat.ne_of_lt FL0.1.lt
  have FL0 := FL0.ext Ea1
  have BL0 := BL0.ext Ea1
  have nb0_1 : ed0 ≠ l_1 := BL0.av.ne_exa Aa1 (wd14 hw)
  refine g_callI Ck3 (W := 1) (argsL := []) (rest := [(.ref l_1)]) (a := l_1) at_66 rfl (wd16 hw) (wd17 hw) (wd18 hw) (by decide) (Ctr.bk (c_alinit l Z a0 G l_1 _ _ _ ha1 n0 gln1 ⟨Aa1, Da1 (Or.inl (wd38 hw)) (ty := (.array (.object "java/lang/Object"))) (by decide), Da1 (Or.inl (wd51 hw)) (ty := .int) (by decide), Da1 (Or.inl (wd35 hw)) (ty := .int) (by decide)⟩ De SD Xn glz1) Ck3 (wd18 hw) (wd15 hw) (by decide) (by decide)) (by decide) (by decide) rfl (lenOf pd19 rfl) rfl rfl (q := 69) rfl (fun vb1 hb1 hQb1 => ?_)
  obtain ⟨rfl, Kb1, FL1⟩ := hQb1
  refine ⟨[(.ref l_1)], rfl, ?_⟩
  have FL0 := FL0.keep Kb1 (by simp [nl0_1])
  have BL0 := BL0.keep Kb1 (by simp [nb0_1])
  have KS : Keep hk3 hb1 [] := KS.trans Kb1 (fun x hx => Or.inr (by cases List.mem_singleton.mp hx; exact gl1))
  have Xn := Ext.keep Xn Kb1 (fun x hx => by cases List.mem_singleton.mp hx; exact glz1)
  refine g_astore Ck3 at_69 rfl (L' := #[.val (.int p0), .val (.int p1), .val (.int p2), .val (.int p3), .val (.int p4), .val (.ref k0), .val (.ref k1), .val (.ref k2), .val (.ref k3), .val (.int (Int32.ofNat K)), .val (.ref l_0), .val (.ref l_1), .unset, .unset, .unset, .unset, .unset, .unset, .unset]) rfl (q := 71) rfl ?_
  refine g_aload Ck3 at_71 (v := (.ref l_1)) rfl rfl (q := 73) rfl ?_
  refine g_aload Ck3 at_73 (v := (.ref k2)) rfl rfl (q := 75) rfl ?_
  have Sx := SS2.keep KS (by simp)
  refine g_callF Ck3 (W := 0) (argsL := [(.ref k2)]) (rest := []) (a := l_1) at_75 (wd39 hw) (wd40 hw) (wd41 hw) (wd42 hw) (wd43 hw) (wd44 hw) (wd45 hw) (wd46 hw) (by first | rfl | simp [Cond.onTables, Cond.keepsFace, Cond.keeps, Cond.steady]) (by decide) FL1.1 (Ctr.bk (c_adda l Z a0 G l_1 0 hb1 n0 (Nat.le_trans Zk3 KS.1) gln1 De SD fD AD Xn FL1 k2 "java/lang/String" Sx.exa (wd73 hw) glz1) Ck3 (wd47 hw) (wd15 hw) (by decide) (by decide)) (by decide) (by decide) rfl (lenOf pd33 rfl) rfl rfl (q := 80) rfl (fun vc hc1_0 hQc => ?_)
  obtain ⟨rfl, ed1, ged1, Kc1_0, FL1, BL1⟩ := hQc
  refine ⟨[(.int (1 : Int32))], rfl, ?_⟩
  have gen1 : hk3.size ≤ ed1 := Nat.le_trans KS.1 ged1
  have nle1 : l_1 ≠ ed1 := Ne.symm (BL1.av.ne_exa FL1.1 (wd14 hw))
  have nq0_1 : l_0 ≠ ed1 := Ne.symm (BL1.av.ne_exa (FL0.1.keep Kc1_0) (wd14 hw))
  have nr0_1 : ed0 ≠ ed1 := Nat.ne_of_lt (Nat.lt_of_lt_of_le BL0.lt ged1)
  have FL0 := FL0.keep Kc1_0 (by simp [nl0_1])
  have BL0 := BL0.keep Kc1_0 (by simp [nb0_1])
  have KS : Keep hk3 hc1_0 [] := KS.trans Kc1_0 (fun x hx => Or.inr (by cases List.mem_singleton.mp hx; exact gl1))
  have Xn := Ext.keep Xn Kc1_0 (fun x hx => by cases List.mem_singleton.mp hx; exact glz1)
  refine g_pop Ck3 at_80 rfl (q := 81) rfl ?_
  refine g_new Ck3 at_81 (wd74 hw) (wd75 hw) (wd76 hw) (by decide) (by decide) (q := 84) rfl (fun ki hi1 qi1 Ei1 Ai1 Di1 => ?_)
  refine g_dup Ck3 at_84 rfl (q := 85) rfl ?_
  have ZL : n0 ≤ hc1_0.size := Nat.le_trans Zk3 KS.1
  have gki : hc1_0.size ≤ ki := by rw [qi1]; exact Nat.le_refl _
  have Xi1 := Ext.tr Xn Ei1
  refine g_callI Ck3 (W := 1) (argsL := []) (rest := [(.ref ki)]) (a := ki) at_85 rfl (wd77 hw) (wd78 hw) (wd79 hw) (by decide) (Ctr.bk (c_kinit l Z a0 G ki _ _ _ _ _ De SD fD AD hi1 n0 (Nat.le_trans ZL Ei1.1) Xi1 (Nat.le_trans ZL gki) ⟨Ai1, Di1 (Or.inr (wd84 hw)) (ty := (.object "java/util/List")) (by decide), Di1 (Or.inl (wd87 hw)) (ty := (.array .int)) (by decide), Di1 (Or.inl (wd89 hw)) (ty := (.array .int)) (by decide), Di1 (Or.inl (wd91 hw)) (ty := (.array .int)) (by decide), Di1 (Or.inl (wd247 hw)) (ty := .int) (by decide), Di1 (Or.inl (wd93 hw)) (ty := (.array .int)) (by decide)⟩) Ck3 (wd79 hw) (wd76 hw) (by decide) (by decide)) (by decide) (by decide) rfl (lenOf pd19 rfl) rfl rfl (q := 88) rfl (fun vi hi2 hQi => ?_)
  obtain ⟨rfl, A, eA0, gA1, Ki2, KZ⟩ := hQi
  refine ⟨[(.ref ki)], rfl, ?_⟩
  have KL : Keep hc1_0 hi2 [] := (Ext.kp Ei1 []).trans Ki2 (fun x hx => Or.inr (by cases List.mem_singleton.mp hx; exact gki))
  have gL : ∀ i, i ≤ 6 → hc1_0.size ≤ A i := fun i hi => by
    by_cases c0 : i = 0
    · rw [c0, eA0]; exact gki
    · exact Nat.le_trans Ei1.1 (gA1 i (by omega) hi)
  have XL := Ext.keep Xn KL (by simp)
  have gLn : ∀ i, i ≤ 6 → n0 ≤ A i := fun i hi => Nat.le_trans ZL (gL i hi)
  have gLz : ∀ i, i ≤ 6 → Z.heap.size ≤ A i := fun i hi => Nat.le_trans Xn.1 (gL i hi)
  have gA1x : hi1.size ≤ A 1 := gA1 1 (by decide) (by decide)
  refine g_astore Ck3 at_88 rfl (L' := #[.val (.int p0), .val (.int p1), .val (.int p2), .val (.int p3), .val (.int p4), .val (.ref k0), .val (.ref k1), .val (.ref k2), .val (.ref k3), .val (.int (Int32.ofNat K)), .val (.ref l_0), .val (.ref l_1), .val (.ref ki), .unset, .unset, .unset, .unset, .unset, .unset]) rfl (q := 90) rfl ?_
  refine g_iconst Ck3 at_90 (z := (1 : Int32)) rfl (q := 91) rfl ?_
  refine g_istore Ck3 at_91 (L' := #[.val (.int p0), .val (.int p1), .val (.int p2), .val (.int p3), .val (.int p4), .val (.ref k0), .val (.ref k1), .val (.ref k2), .val (.ref k3), .val (.int (Int32.ofNat K)), .val (.ref l_0), .val (.ref l_1), .val (.ref ki), .val (.int (1 : Int32)), .unset, .unset, .unset, .unset, .unset]) rfl (q := 93) rfl ?_
  refine g_iload Ck3 at_93 (v := (Int32.ofNat K)) rfl (q := 95) rfl ?_
  have b0 := SS0.by
  have SS0 := SS0.keep KS (by simp)
  have KSL := KS
  have b1 := SS1.by
  have SS1 := SS1.keep KS (by simp)
  have KSL := KS
  have b2 := SS2.by
  have SS2 := SS2.keep KS (by simp)
  have KSL := KS
  have b3 := SS3.by
  have SS3 := SS3.keep KS (by simp)
  have KSL := KS
  have KS : Keep hc1_0 hc1_0 [] := Keep.refl _ _
  obtain rfl | rfl | rfl : K = 0 ∨ K = 1 ∨ K = 2 := by omega
  ·
    refine g_if_ne Ck3 at_95 (q' := 104) (q := 98) (by decide) (by decide) rfl (fun hy => absurd rfl hy) (fun hn => ?_)
    refine g_iconst Ck3 at_98 (z := (-1 : Int32)) rfl (q := 99) rfl ?_
    refine g_istore Ck3 at_99 (L' := #[.val (.int p0), .val (.int p1), .val (.int p2), .val (.int p3), .val (.int p4), .val (.ref k0), .val (.ref k1), .val (.ref k2), .val (.ref k3), .val (.int (Int32.ofNat 0)), .val (.ref l_0), .val (.ref l_1), .val (.ref ki), .val (.int (1 : Int32)), .val (.int (-1 : Int32)), .unset, .unset, .unset, .unset]) rfl (q := 101) rfl ?_
    refine g_goto Ck3 at_101 (q := 249) (by decide) (by decide) ?_
    refine g_aload Ck3 at_249 (v := (.ref ki)) rfl rfl (q := 251) rfl ?_
    refine g_aload Ck3 at_251 (v := (.ref k3)) rfl rfl (q := 253) rfl ?_
    refine g_callV Ck3 (W := 0) (argsL := [(.ref k3)]) (rest := []) (a := ki) at_253 (wd94 hw) (wd95 hw) (wd97 hw) (wd96 hw) (by decide) (nf_of Ck3 (wd97 hw)) (eA0 ▸ KZ.1.1) (Ctr.bk (c_fileOf0 l Z a0 G cz S0 hcz u SI SU8 hi2 n0 (Nat.le_trans ZL KL.1) XL A De KZ ki eA0 k3 t3 l3 (SS3.keep KL (by simp))) Ck3 (wd98 hw) (wd76 hw) (by decide) (by decide)) (by decide) (by decide) rfl (lenOf pd37 rfl) rfl rfl (q := 256) rfl (fun vf hf hQf => ?_)
    obtain ⟨Kf, rfl⟩ := hQf
    refine ⟨[(.int (-1 : Int32))], rfl, ?_⟩
    refine g_istore Ck3 at_256 (L' := #[.val (.int p0), .val (.int p1), .val (.int p2), .val (.int p3), .val (.int p4), .val (.ref k0), .val (.ref k1), .val (.ref k2), .val (.ref k3), .val (.int (Int32.ofNat 0)), .val (.ref l_0), .val (.ref l_1), .val (.ref ki), .val (.int (1 : Int32)), .val (.int (-1 : Int32)), .val (.int (-1 : Int32)), .unset, .unset, .unset]) rfl (q := 258) rfl ?_
    refine g_iload Ck3 at_258 (v := (1 : Int32)) rfl (q := 260) rfl ?_
    refine g_if_eq Ck3 at_260 (q' := 274) (q := 263) (by decide) (by decide) rfl (fun hy => absurd hy (by decide)) (fun hn => ?_)
    refine g_iload Ck3 at_263 (v := (-1 : Int32)) rfl (q := 265) rfl ?_
    refine g_iload Ck3 at_265 (v := (-1 : Int32)) rfl (q := 267) rfl ?_
    refine g_icmp_ne Ck3 at_267 (q' := 274) (q := 270) (by decide) (by decide) rfl (fun hy => absurd rfl hy) (fun hn => ?_)
    refine g_iconst Ck3 at_270 (z := (1 : Int32)) rfl (q := 271) rfl ?_
    refine g_goto Ck3 at_271 (q := 275) (by decide) (by decide) ?_
    have KL : Keep hc1_0 hf [] := KL.trans Kf (by simp)
    exact g_nreturnW Ck3 (Swk3.mono (Nat.le_trans KSL.1 KL.1)) at_275 (by simp) (z := 1) rfl (Nat.le_refl _) (by decide) (by decide) (fun vm' hW => rfl)
  ·
    refine g_if_ne Ck3 at_95 (q' := 104) (q := 98) (by decide) (by decide) rfl (fun hy => ?_) (fun hn => absurd hn (by decide))
    refine g_aload Ck3 at_104 (v := (.ref ki)) rfl rfl (q := 106) rfl ?_
    refine g_aload Ck3 at_106 (v := (.ref l_0)) rfl rfl (q := 108) rfl ?_
    have FLx := FL0.keep KL (by simp)
    have BLx := BL0.keep KL (by simp)
    refine g_callV Ck3 (W := 0) (argsL := [(.ref l_0)]) (rest := []) (a := ki) at_108 (wd147 hw) (wd148 hw) (wd150 hw) (wd149 hw) (by decide) (nf_of Ck3 (wd150 hw)) (eA0 ▸ KZ.1.1) (Ctr.bk (c_add_0 l Z a0 G cz S0 hcz u SI SU8 hi2 n0 (Nat.le_trans ZL KL.1) XL A De SD fD AD KZ l_0 ed0 2 10 _ _ (fun j => [t0, t1].getD j []) (fun j => [k0, k1].getD j 0) FLx BLx.av (fun j hj => by
          obtain rfl | rfl : j = 0 ∨ j = 1 := by omega
          · rfl
          · rfl) (fun j hj => by
          obtain rfl | rfl : j = 0 ∨ j = 1 := by omega
          · exact (SS0.keep KS (by simp)).keep KL (by simp)
          · exact (SS1.keep KS (by simp)).keep KL (by simp)) (fun j hj => by
          obtain rfl | rfl : j = 0 ∨ j = 1 := by omega
          · exact l0
          · exact l1) (by decide) (by decide) (by decide) (by decide) (Nat.ne_of_lt (Nat.lt_of_lt_of_le FL0.1.lt (gL 1 (by decide)))) gLn gLz ki eA0) Ck3 (wd151 hw) (wd76 hw) (by decide) (by decide)) (by decide) (by decide) rfl (lenOf pd38 rfl) rfl rfl (q := 111) rfl (fun vd hd1 hQd => ?_)
    obtain ⟨rfl, Kd1, A2, T2, sf2, Lb2, cb2, mc2, X2, eA2, hA'⟩ := hQd
    refine ⟨[(.int (Int32.ofNat (adF (fun j => [t0, t1].getD j []) 0 2 0 []).2))], rfl, ?_⟩
    have gL' : ∀ i, i ≤ 6 → hc1_0.size ≤ A2 i := fun i hi => by
      by_cases c0 : i = 0
      · rw [c0, eA2, ← eA0]; exact gL 0 (by decide)
      · rcases hA' i (by omega) hi with q | q
        · rw [q]; exact gL i hi
        · exact Nat.le_trans KL.1 q
    have KL : Keep hc1_0 hd1 [] := KL.trans Kd1 (fun x hx => Or.inr (by
      simp only [List.mem_cons, List.not_mem_nil, or_false] at hx
      rcases hx with h | h | h | h | h | h | h <;> rw [h]
      · exact gL 0 (by decide)
      · exact gL 1 (by decide)
      · exact gL 2 (by decide)
      · exact gL 3 (by decide)
      · exact gL 4 (by decide)
      · exact gL 5 (by decide)
      · exact gL 6 (by decide)))
    have XL := Ext.keep Xn KL (by simp)
    have gL := gL'
    have gLn : ∀ i, i ≤ 6 → n0 ≤ A2 i := fun i hi => Nat.le_trans ZL (gL i hi)
    have gLz : ∀ i, i ≤ 6 → Z.heap.size ≤ A2 i := fun i hi => Nat.le_trans Xn.1 (gL i hi)
    have eA0 := eA2
    obtain ⟨P2, P3, P4, P5⟩ := m2p1 b0 b1
    generalize adF (fun j => [t0, t1].getD j []) 0 2 0 [] = H1 at X2 P2 P3 P4 P5 ⊢
    refine g_istore Ck3 at_111 (L' := #[.val (.int p0), .val (.int p1), .val (.int p2), .val (.int p3), .val (.int p4), .val (.ref k0), .val (.ref k1), .val (.ref k2), .val (.ref k3), .val (.int (Int32.ofNat 1)), .val (.ref l_0), .val (.ref l_1), .val (.ref ki), .val (.int (1 : Int32)), .unset, .val (.int (Int32.ofNat H1.2)), .unset, .unset, .unset]) rfl (q := 113) rfl ?_
    have J192 : ∀ z16 : Int32, Go p l e room_1 (s0.setVm vmk3) m #[(.int p0), (.int p1), (.int p2), (.int p3), (.int p4)] below meth c (FinW s0 below room_1 n0 (fun v vm h => v = some (.int 1))) n0 hd1 72 11000 192 #[.val (.int p0), .val (.int p1), .val (.int p2), .val (.int p3), .val (.int p4), .val (.ref k0), .val (.ref k1), .val (.ref k2), .val (.ref k3), .val (.int (Int32.ofNat 1)), .val (.ref l_0), .val (.ref l_1), .val (.ref ki), .val (.int (1 : Int32)), .unset, .val (.int (Int32.ofNat H1.2)), .val (.int z16), .unset, .unset] [] := by
      intro z16
      refine g_aload Ck3 at_192 (v := (.ref k3)) rfl rfl (q := 194) rfl ?_
      refine g_aload Ck3 at_194 (v := (.ref k0)) rfl rfl (q := 196) rfl ?_
      refine g_callV Ck3 (W := 0) (argsL := [(.ref k0)]) (rest := []) (a := k3) at_196 (wd263 hw) (wd264 hw) (wd266 hw) (wd265 hw) (by decide) (nf_of Ck3 (wd266 hw)) (SS3.keep KL (by simp)).exa (Ctr.bk (c_eqG l Z a0 G cz S0 hcz k3 k0 t3 t0 hd1 n0 XL (SS3.keep KL (by simp)).sl (SS0.keep KL (by simp)).sl) Ck3 (wd267 hw) (wd5 hw) (by decide) (by decide)) (by decide) (by decide) rfl (lenOf pd33 rfl) rfl rfl (q := 199) rfl (fun vq hx hQq => ?_)
      obtain ⟨rfl, re0_, rfl, hAe0_⟩ := hQq
      refine ⟨[(.int re0_)], rfl, ?_⟩
      rcases hAe0_ with ⟨e0_, rfl⟩ | ⟨e0_, rfl⟩
      ·
        refine g_if_eq Ck3 at_199 (q' := 208) (q := 202) (by decide) (by decide) rfl (fun hy => absurd hy (by decide)) (fun hn => ?_)
        refine g_iconst Ck3 at_202 (z := (0 : Int32)) rfl (q := 203) rfl ?_
        refine g_istore Ck3 at_203 (L' := #[.val (.int p0), .val (.int p1), .val (.int p2), .val (.int p3), .val (.int p4), .val (.ref k0), .val (.ref k1), .val (.ref k2), .val (.ref k3), .val (.int (Int32.ofNat 1)), .val (.ref l_0), .val (.ref l_1), .val (.ref ki), .val (.int (1 : Int32)), .val (.int (0 : Int32)), .val (.int (Int32.ofNat H1.2)), .val (.int z16), .unset, .unset]) rfl (q := 205) rfl ?_
        refine g_goto Ck3 at_205 (q := 249) (by decide) (by decide) ?_
        refine g_aload Ck3 at_249 (v := (.ref ki)) rfl rfl (q := 251) rfl ?_
        refine g_aload Ck3 at_251 (v := (.ref k3)) rfl rfl (q := 253) rfl ?_
        refine g_callV Ck3 (W := 0) (argsL := [(.ref k3)]) (rest := []) (a := ki) at_253 (wd94 hw) (wd95 hw) (wd97 hw) (wd96 hw) (by decide) (nf_of Ck3 (wd97 hw)) (eA2 ▸ X2.1.1) (Ctr.bk (c_fileL l Z a0 G cz S0 hcz u SI SU8 hd1 n0 (Nat.le_trans ZL KL.1) XL A2 _ _ H1.1 _ _ _ _ X2 ki eA2 k3 t3 l3 (SS3.keep KL (by simp))) Ck3 (wd98 hw) (wd76 hw) (by decide) (by decide)) (by decide) (by decide) rfl (lenOf pd37 rfl) rfl rfl (q := 256) rfl (fun vf hf hQf => ?_)
        obtain ⟨Kf, rfl⟩ := hQf
        refine ⟨[(.int (look H1.1 (u8 t3)))], rfl, ?_⟩
        refine g_istore Ck3 at_256 (L' := #[.val (.int p0), .val (.int p1), .val (.int p2), .val (.int p3), .val (.int p4), .val (.ref k0), .val (.ref k1), .val (.ref k2), .val (.ref k3), .val (.int (Int32.ofNat 1)), .val (.ref l_0), .val (.ref l_1), .val (.ref ki), .val (.int (1 : Int32)), .val (.int (0 : Int32)), .val (.int (look H1.1 (u8 t3))), .val (.int z16), .unset, .unset]) rfl (q := 258) rfl ?_
        refine g_iload Ck3 at_258 (v := (1 : Int32)) rfl (q := 260) rfl ?_
        refine g_if_eq Ck3 at_260 (q' := 274) (q := 263) (by decide) (by decide) rfl (fun hy => absurd hy (by decide)) (fun hn => ?_)
        refine g_iload Ck3 at_263 (v := (look H1.1 (u8 t3))) rfl (q := 265) rfl ?_
        refine g_iload Ck3 at_265 (v := (0 : Int32)) rfl (q := 267) rfl ?_
        refine g_icmp_ne Ck3 at_267 (q' := 274) (q := 270) (by decide) (by decide) rfl (fun hy => absurd (by rw [P4, if_pos (Or.inl (by rw [e0_]))]) hy) (fun hn => ?_)
        refine g_iconst Ck3 at_270 (z := (1 : Int32)) rfl (q := 271) rfl ?_
        refine g_goto Ck3 at_271 (q := 275) (by decide) (by decide) ?_
        have KL : Keep hc1_0 hf [] := KL.trans Kf (by simp)
        exact g_nreturnW Ck3 (Swk3.mono (Nat.le_trans KSL.1 KL.1)) at_275 (by simp) (z := 1) rfl (Nat.le_refl _) (by decide) (by decide) (fun vm' hW => rfl)
      ·
        refine g_if_eq Ck3 at_199 (q' := 208) (q := 202) (by decide) (by decide) rfl (fun hy => ?_) (fun hn => absurd rfl hn)
        refine g_aload Ck3 at_208 (v := (.ref k3)) rfl rfl (q := 210) rfl ?_
        refine g_aload Ck3 at_210 (v := (.ref k1)) rfl rfl (q := 212) rfl ?_
        refine g_callV Ck3 (W := 0) (argsL := [(.ref k1)]) (rest := []) (a := k3) at_212 (wd263 hw) (wd264 hw) (wd266 hw) (wd265 hw) (by decide) (nf_of Ck3 (wd266 hw)) (SS3.keep KL (by simp)).exa (Ctr.bk (c_eqG l Z a0 G cz S0 hcz k3 k1 t3 t1 hd1 n0 XL (SS3.keep KL (by simp)).sl (SS1.keep KL (by simp)).sl) Ck3 (wd267 hw) (wd5 hw) (by decide) (by decide)) (by decide) (by decide) rfl (lenOf pd33 rfl) rfl rfl (q := 215) rfl (fun vq hx hQq => ?_)
        obtain ⟨rfl, re1_, rfl, hAe1_⟩ := hQq
        refine ⟨[(.int re1_)], rfl, ?_⟩
        rcases hAe1_ with ⟨e1_, rfl⟩ | ⟨e1_, rfl⟩
        ·
          refine g_if_eq Ck3 at_215 (q' := 224) (q := 218) (by decide) (by decide) rfl (fun hy => absurd hy (by decide)) (fun hn => ?_)
          refine g_iconst Ck3 at_218 (z := (0 : Int32)) rfl (q := 219) rfl ?_
          refine g_istore Ck3 at_219 (L' := #[.val (.int p0), .val (.int p1), .val (.int p2), .val (.int p3), .val (.int p4), .val (.ref k0), .val (.ref k1), .val (.ref k2), .val (.ref k3), .val (.int (Int32.ofNat 1)), .val (.ref l_0), .val (.ref l_1), .val (.ref ki), .val (.int (1 : Int32)), .val (.int (0 : Int32)), .val (.int (Int32.ofNat H1.2)), .val (.int z16), .unset, .unset]) rfl (q := 221) rfl ?_
          refine g_goto Ck3 at_221 (q := 249) (by decide) (by decide) ?_
          refine g_aload Ck3 at_249 (v := (.ref ki)) rfl rfl (q := 251) rfl ?_
          refine g_aload Ck3 at_251 (v := (.ref k3)) rfl rfl (q := 253) rfl ?_
          refine g_callV Ck3 (W := 0) (argsL := [(.ref k3)]) (rest := []) (a := ki) at_253 (wd94 hw) (wd95 hw) (wd97 hw) (wd96 hw) (by decide) (nf_of Ck3 (wd97 hw)) (eA2 ▸ X2.1.1) (Ctr.bk (c_fileL l Z a0 G cz S0 hcz u SI SU8 hd1 n0 (Nat.le_trans ZL KL.1) XL A2 _ _ H1.1 _ _ _ _ X2 ki eA2 k3 t3 l3 (SS3.keep KL (by simp))) Ck3 (wd98 hw) (wd76 hw) (by decide) (by decide)) (by decide) (by decide) rfl (lenOf pd37 rfl) rfl rfl (q := 256) rfl (fun vf hf hQf => ?_)
          obtain ⟨Kf, rfl⟩ := hQf
          refine ⟨[(.int (look H1.1 (u8 t3)))], rfl, ?_⟩
          refine g_istore Ck3 at_256 (L' := #[.val (.int p0), .val (.int p1), .val (.int p2), .val (.int p3), .val (.int p4), .val (.ref k0), .val (.ref k1), .val (.ref k2), .val (.ref k3), .val (.int (Int32.ofNat 1)), .val (.ref l_0), .val (.ref l_1), .val (.ref ki), .val (.int (1 : Int32)), .val (.int (0 : Int32)), .val (.int (look H1.1 (u8 t3))), .val (.int z16), .unset, .unset]) rfl (q := 258) rfl ?_
          refine g_iload Ck3 at_258 (v := (1 : Int32)) rfl (q := 260) rfl ?_
          refine g_if_eq Ck3 at_260 (q' := 274) (q := 263) (by decide) (by decide) rfl (fun hy => absurd hy (by decide)) (fun hn => ?_)
          refine g_iload Ck3 at_263 (v := (look H1.1 (u8 t3))) rfl (q := 265) rfl ?_
          refine g_iload Ck3 at_265 (v := (0 : Int32)) rfl (q := 267) rfl ?_
          refine g_icmp_ne Ck3 at_267 (q' := 274) (q := 270) (by decide) (by decide) rfl (fun hy => absurd (by rw [P4, if_pos (Or.inr (by rw [e1_]))]) hy) (fun hn => ?_)
          refine g_iconst Ck3 at_270 (z := (1 : Int32)) rfl (q := 271) rfl ?_
          refine g_goto Ck3 at_271 (q := 275) (by decide) (by decide) ?_
          have KL : Keep hc1_0 hf [] := KL.trans Kf (by simp)
          exact g_nreturnW Ck3 (Swk3.mono (Nat.le_trans KSL.1 KL.1)) at_275 (by simp) (z := 1) rfl (Nat.le_refl _) (by decide) (by decide) (fun vm' hW => rfl)
        ·
          refine g_if_eq Ck3 at_215 (q' := 224) (q := 218) (by decide) (by decide) rfl (fun hy => ?_) (fun hn => absurd rfl hn)
          refine g_iload Ck3 at_224 (v := (Int32.ofNat 1)) rfl (q := 226) rfl ?_
          refine g_iconst Ck3 at_226 (z := (2 : Int32)) rfl (q := 227) rfl ?_
          refine g_icmp_ne Ck3 at_227 (q' := 246) (q := 230) (by decide) (by decide) rfl (fun hy => ?_) (fun hn => absurd hn (by decide))
          refine g_iconst Ck3 at_246 (z := (-1 : Int32)) rfl (q := 247) rfl ?_
          refine g_istore Ck3 at_247 (L' := #[.val (.int p0), .val (.int p1), .val (.int p2), .val (.int p3), .val (.int p4), .val (.ref k0), .val (.ref k1), .val (.ref k2), .val (.ref k3), .val (.int (Int32.ofNat 1)), .val (.ref l_0), .val (.ref l_1), .val (.ref ki), .val (.int (1 : Int32)), .val (.int (-1 : Int32)), .val (.int (Int32.ofNat H1.2)), .val (.int z16), .unset, .unset]) rfl (q := 249) rfl ?_
          refine g_aload Ck3 at_249 (v := (.ref ki)) rfl rfl (q := 251) rfl ?_
          refine g_aload Ck3 at_251 (v := (.ref k3)) rfl rfl (q := 253) rfl ?_
          refine g_callV Ck3 (W := 0) (argsL := [(.ref k3)]) (rest := []) (a := ki) at_253 (wd94 hw) (wd95 hw) (wd97 hw) (wd96 hw) (by decide) (nf_of Ck3 (wd97 hw)) (eA2 ▸ X2.1.1) (Ctr.bk (c_fileL l Z a0 G cz S0 hcz u SI SU8 hd1 n0 (Nat.le_trans ZL KL.1) XL A2 _ _ H1.1 _ _ _ _ X2 ki eA2 k3 t3 l3 (SS3.keep KL (by simp))) Ck3 (wd98 hw) (wd76 hw) (by decide) (by decide)) (by decide) (by decide) rfl (lenOf pd37 rfl) rfl rfl (q := 256) rfl (fun vf hf hQf => ?_)
          obtain ⟨Kf, rfl⟩ := hQf
          refine ⟨[(.int (look H1.1 (u8 t3)))], rfl, ?_⟩
          refine g_istore Ck3 at_256 (L' := #[.val (.int p0), .val (.int p1), .val (.int p2), .val (.int p3), .val (.int p4), .val (.ref k0), .val (.ref k1), .val (.ref k2), .val (.ref k3), .val (.int (Int32.ofNat 1)), .val (.ref l_0), .val (.ref l_1), .val (.ref ki), .val (.int (1 : Int32)), .val (.int (-1 : Int32)), .val (.int (look H1.1 (u8 t3))), .val (.int z16), .unset, .unset]) rfl (q := 258) rfl ?_
          refine g_iload Ck3 at_258 (v := (1 : Int32)) rfl (q := 260) rfl ?_
          refine g_if_eq Ck3 at_260 (q' := 274) (q := 263) (by decide) (by decide) rfl (fun hy => absurd hy (by decide)) (fun hn => ?_)
          refine g_iload Ck3 at_263 (v := (look H1.1 (u8 t3))) rfl (q := 265) rfl ?_
          refine g_iload Ck3 at_265 (v := (-1 : Int32)) rfl (q := 267) rfl ?_
          refine g_icmp_ne Ck3 at_267 (q' := 274) (q := 270) (by decide) (by decide) rfl (fun hy => absurd (by rw [P4, if_neg (fun q => q.elim (fun q => e0_ (u8_inj b3 b0 q)) (fun q => e1_ (u8_inj b3 b1 q)))]) hy) (fun hn => ?_)
          refine g_iconst Ck3 at_270 (z := (1 : Int32)) rfl (q := 271) rfl ?_
          refine g_goto Ck3 at_271 (q := 275) (by decide) (by decide) ?_
          have KL : Keep hc1_0 hf [] := KL.trans Kf (by simp)
          exact g_nreturnW Ck3 (Swk3.mono (Nat.le_trans KSL.1 KL.1)) at_275 (by simp) (z := 1) rfl (Nat.le_refl _) (by decide) (by decide) (fun vm' hW => rfl)
    refine g_aload Ck3 at_113 (v := (.ref k1)) rfl rfl (q := 115) rfl ?_
    refine g_aload Ck3 at_115 (v := (.ref k0)) rfl rfl (q := 117) rfl ?_
    refine g_callV Ck3 (W := 0) (argsL := [(.ref k0)]) (rest := []) (a := k1) at_117 (wd263 hw) (wd264 hw) (wd266 hw) (wd265 hw) (by decide) (nf_of Ck3 (wd266 hw)) (SS1.keep KL (by simp)).exa (Ctr.bk (c_eqG l Z a0 G cz S0 hcz k1 k0 t1 t0 hd1 n0 XL (SS1.keep KL (by simp)).sl (SS0.keep KL (by simp)).sl) Ck3 (wd267 hw) (wd5 hw) (by decide) (by decide)) (by decide) (by decide) rfl (lenOf pd33 rfl) rfl rfl (q := 120) rfl (fun vq hx hQq => ?_)
    obtain ⟨rfl, rc_, rfl, hAc_⟩ := hQq
    refine ⟨[(.int rc_)], rfl, ?_⟩
    rcases hAc_ with ⟨c_, rfl⟩ | ⟨c_, rfl⟩
    ·
      rw [if_pos c_] at P2
      refine g_if_eq Ck3 at_120 (q' := 127) (q := 123) (by decide) (by decide) rfl (fun hy => absurd hy (by decide)) (fun hn => ?_)
      refine g_iconst Ck3 at_123 (z := (1 : Int32)) rfl (q := 124) rfl ?_
      refine g_goto Ck3 at_124 (q := 128) (by decide) (by decide) ?_
      refine g_istore Ck3 at_128 (L' := #[.val (.int p0), .val (.int p1), .val (.int p2), .val (.int p3), .val (.int p4), .val (.ref k0), .val (.ref k1), .val (.ref k2), .val (.ref k3), .val (.int (Int32.ofNat 1)), .val (.ref l_0), .val (.ref l_1), .val (.ref ki), .val (.int (1 : Int32)), .unset, .val (.int (Int32.ofNat H1.2)), .val (.int (1 : Int32)), .unset, .unset]) rfl (q := 130) rfl ?_
      refine g_iload Ck3 at_130 (v := (Int32.ofNat H1.2)) rfl (q := 132) rfl ?_
      refine g_iload Ck3 at_132 (v := (1 : Int32)) rfl (q := 134) rfl ?_
      refine g_icmp_eq Ck3 at_134 (q' := 140) (q := 137) (by decide) (by decide) rfl (fun hy => ?_) (fun hn => absurd (by rw [P2]; rfl) hn)
      refine g_iload Ck3 at_140 (v := (Int32.ofNat 1)) rfl (q := 142) rfl ?_
      refine g_iconst Ck3 at_142 (z := (2 : Int32)) rfl (q := 143) rfl ?_
      refine g_icmp_ne Ck3 at_143 (q' := 192) (q := 146) (by decide) (by decide) rfl (fun hy => ?_) (fun hn => absurd hn (by decide))
      exact Go.more (by decide) (by decide) (J192 _)
    ·
      rw [if_neg c_] at P2
      refine g_if_eq Ck3 at_120 (q' := 127) (q := 123) (by decide) (by decide) rfl (fun hy => ?_) (fun hn => absurd rfl hn)
      refine g_iconst Ck3 at_127 (z := (2 : Int32)) rfl (q := 128) rfl ?_
      refine g_istore Ck3 at_128 (L' := #[.val (.int p0), .val (.int p1), .val (.int p2), .val (.int p3), .val (.int p4), .val (.ref k0), .val (.ref k1), .val (.ref k2), .val (.ref k3), .val (.int (Int32.ofNat 1)), .val (.ref l_0), .val (.ref l_1), .val (.ref ki), .val (.int (1 : Int32)), .unset, .val (.int (Int32.ofNat H1.2)), .val (.int (2 : Int32)), .unset, .unset]) rfl (q := 130) rfl ?_
      refine g_iload Ck3 at_130 (v := (Int32.ofNat H1.2)) rfl (q := 132) rfl ?_
      refine g_iload Ck3 at_132 (v := (2 : Int32)) rfl (q := 134) rfl ?_
      refine g_icmp_eq Ck3 at_134 (q' := 140) (q := 137) (by decide) (by decide) rfl (fun hy => ?_) (fun hn => absurd (by rw [P2]; rfl) hn)
      refine g_iload Ck3 at_140 (v := (Int32.ofNat 1)) rfl (q := 142) rfl ?_
      refine g_iconst Ck3 at_142 (z := (2 : Int32)) rfl (q := 143) rfl ?_
      refine g_icmp_ne Ck3 at_143 (q' := 192) (q := 146) (by decide) (by decide) rfl (fun hy => ?_) (fun hn => absurd hn (by decide))
      exact Go.more (by decide) (by decide) (J192 _)
  ·
    refine g_if_ne Ck3 at_95 (q' := 104) (q := 98) (by decide) (by decide) rfl (fun hy => ?_) (fun hn => absurd hn (by decide))
    refine g_aload Ck3 at_104 (v := (.ref ki)) rfl rfl (q := 106) rfl ?_
    refine g_aload Ck3 at_106 (v := (.ref l_0)) rfl rfl (q := 108) rfl ?_
    have FLx := FL0.keep KL (by simp)
    have BLx := BL0.keep KL (by simp)
    refine g_callV Ck3 (W := 0) (argsL := [(.ref l_0)]) (rest := []) (a := ki) at_108 (wd147 hw) (wd148 hw) (wd150 hw) (wd149 hw) (by decide) (nf_of Ck3 (wd150 hw)) (eA0 ▸ KZ.1.1) (Ctr.bk (c_add_0 l Z a0 G cz S0 hcz u SI SU8 hi2 n0 (Nat.le_trans ZL KL.1) XL A De SD fD AD KZ l_0 ed0 2 10 _ _ (fun j => [t0, t1].getD j []) (fun j => [k0, k1].getD j 0) FLx BLx.av (fun j hj => by
          obtain rfl | rfl : j = 0 ∨ j = 1 := by omega
          · rfl
          · rfl) (fun j hj => by
          obtain rfl | rfl : j = 0 ∨ j = 1 := by omega
          · exact (SS0.keep KS (by simp)).keep KL (by simp)
          · exact (SS1.keep KS (by simp)).keep KL (by simp)) (fun j hj => by
          obtain rfl | rfl : j = 0 ∨ j = 1 := by omega
          · exact l0
          · exact l1) (by decide) (by decide) (by decide) (by decide) (Nat.ne_of_lt (Nat.lt_of_lt_of_le FL0.1.lt (gL 1 (by decide)))) gLn gLz ki eA0) Ck3 (wd151 hw) (wd76 hw) (by decide) (by decide)) (by decide) (by decide) rfl (lenOf pd38 rfl) rfl rfl (q := 111) rfl (fun vd hd1 hQd => ?_)
    obtain ⟨rfl, Kd1, A2, T2, sf2, Lb2, cb2, mc2, X2, eA2, hA'⟩ := hQd
    refine ⟨[(.int (Int32.ofNat (adF (fun j => [t0, t1].getD j []) 0 2 0 []).2))], rfl, ?_⟩
    have gL' : ∀ i, i ≤ 6 → hc1_0.size ≤ A2 i := fun i hi => by
      by_cases c0 : i = 0
      · rw [c0, eA2, ← eA0]; exact gL 0 (by decide)
      · rcases hA' i (by omega) hi with q | q
        · rw [q]; exact gL i hi
        · exact Nat.le_trans KL.1 q
    have KL : Keep hc1_0 hd1 [] := KL.trans Kd1 (fun x hx => Or.inr (by
      simp only [List.mem_cons, List.not_mem_nil, or_false] at hx
      rcases hx with h | h | h | h | h | h | h <;> rw [h]
      · exact gL 0 (by decide)
      · exact gL 1 (by decide)
      · exact gL 2 (by decide)
      · exact gL 3 (by decide)
      · exact gL 4 (by decide)
      · exact gL 5 (by decide)
      · exact gL 6 (by decide)))
    have XL := Ext.keep Xn KL (by simp)
    have gL := gL'
    have gLn : ∀ i, i ≤ 6 → n0 ≤ A2 i := fun i hi => Nat.le_trans ZL (gL i hi)
    have gLz : ∀ i, i ≤ 6 → Z.heap.size ≤ A2 i := fun i hi => Nat.le_trans Xn.1 (gL i hi)
    have eA0 := eA2
    obtain ⟨P2, P3, P4, P5⟩ := m2p1 b0 b1
    generalize adF (fun j => [t0, t1].getD j []) 0 2 0 [] = H1 at X2 P2 P3 P4 P5 ⊢
    refine g_istore Ck3 at_111 (L' := #[.val (.int p0), .val (.int p1), .val (.int p2), .val (.int p3), .val (.int p4), .val (.ref k0), .val (.ref k1), .val (.ref k2), .val (.ref k3), .val (.int (Int32.ofNat 2)), .val (.ref l_0), .val (.ref l_1), .val (.ref ki), .val (.int (1 : Int32)), .unset, .val (.int (Int32.ofNat H1.2)), .unset, .unset, .unset]) rfl (q := 113) rfl ?_
    have J146 : ∀ z16 : Int32, Go p l e room_1 (s0.setVm vmk3) m #[(.int p0), (.int p1), (.int p2), (.int p3), (.int p4)] below meth c (FinW s0 below room_1 n0 (fun v vm h => v = some (.int 1))) n0 hd1 56 10000 146 #[.val (.int p0), .val (.int p1), .val (.int p2), .val (.int p3), .val (.int p4), .val (.ref k0), .val (.ref k1), .val (.ref k2), .val (.ref k3), .val (.int (Int32.ofNat 2)), .val (.ref l_0), .val (.ref l_1), .val (.ref ki), .val (.int (1 : Int32)), .unset, .val (.int (Int32.ofNat H1.2)), .val (.int z16), .unset, .unset] [] := by
      intro z16
      refine g_aload Ck3 at_146 (v := (.ref ki)) rfl rfl (q := 148) rfl ?_
      refine g_aload Ck3 at_148 (v := (.ref l_1)) rfl rfl (q := 150) rfl ?_
      have FLx := FL1.keep KL (by simp)
      have BLx := BL1.keep KL (by simp)
      refine g_callV Ck3 (W := 0) (argsL := [(.ref l_1)]) (rest := []) (a := ki) at_150 (wd147 hw) (wd148 hw) (wd150 hw) (wd149 hw) (by decide) (nf_of Ck3 (wd150 hw)) (eA2 ▸ X2.1.1) (Ctr.bk (c_add_1 l Z a0 G cz S0 hcz u SI SU8 hd1 n0 (Nat.le_trans ZL KL.1) XL A2 mc2 H1.1 T2 sf2 Lb2 cb2 X2 P3 l_1 ed1 1 10 _ _ (fun j => [t2].getD j []) (fun j => [k2].getD j 0) FLx BLx.av (fun j hj => by
            obtain rfl : j = 0 := by omega
            · rfl) (fun j hj => by
            obtain rfl : j = 0 := by omega
            · exact (SS2.keep KS (by simp)).keep KL (by simp)) (fun j hj => by
            obtain rfl : j = 0 := by omega
            · exact l2) (by decide) (by decide) (by decide) (by decide) (Nat.ne_of_lt (Nat.lt_of_lt_of_le FL1.1.lt (gL 1 (by decide)))) gLn gLz ki eA0) Ck3 (wd151 hw) (wd76 hw) (by decide) (by decide)) (by decide) (by decide) rfl (lenOf pd38 rfl) rfl rfl (q := 153) rfl (fun ve hd2 hQe => ?_)
      obtain ⟨rfl, Kd2, A3, T3, sf3, Lb3, cb3, mc3, X3, eA3, hA'⟩ := hQe
      refine ⟨[(.int (Int32.ofNat (adF (fun j => [t2].getD j []) 1 1 0 H1.1).2))], rfl, ?_⟩
      have gL' : ∀ i, i ≤ 6 → hc1_0.size ≤ A3 i := fun i hi => by
        by_cases c0 : i = 0
        · rw [c0, eA3, ← eA0]; exact gL 0 (by decide)
        · rcases hA' i (by omega) hi with q | q
          · rw [q]; exact gL i hi
          · exact Nat.le_trans KL.1 q
      have KL : Keep hc1_0 hd2 [] := KL.trans Kd2 (fun x hx => Or.inr (by
        simp only [List.mem_cons, List.not_mem_nil, or_false] at hx
        rcases hx with h | h | h | h | h | h | h <;> rw [h]
        · exact gL 0 (by decide)
        · exact gL 1 (by decide)
        · exact gL 2 (by decide)
        · exact gL 3 (by decide)
        · exact gL 4 (by decide)
        · exact gL 5 (by decide)
        · exact gL 6 (by decide)))
      have XL := Ext.keep Xn KL (by simp)
      have gL := gL'
      have gLn : ∀ i, i ≤ 6 → n0 ≤ A3 i := fun i hi => Nat.le_trans ZL (gL i hi)
      have gLz : ∀ i, i ≤ 6 → Z.heap.size ≤ A3 i := fun i hi => Nat.le_trans Xn.1 (gL i hi)
      have eA0 := eA3
      obtain ⟨P6, P7⟩ := m2p2 b0 b1 b2 P4 P5
      generalize adF (fun j => [t2].getD j []) 1 1 0 H1.1 = H2 at X3 P6 P7 ⊢
      refine g_istore Ck3 at_153 (L' := #[.val (.int p0), .val (.int p1), .val (.int p2), .val (.int p3), .val (.int p4), .val (.ref k0), .val (.ref k1), .val (.ref k2), .val (.ref k3), .val (.int (Int32.ofNat 2)), .val (.ref l_0), .val (.ref l_1), .val (.ref ki), .val (.int (1 : Int32)), .unset, .val (.int (Int32.ofNat H1.2)), .val (.int z16), .val (.int (Int32.ofNat H2.2)), .unset]) rfl (q := 155) rfl ?_
      have J192 : ∀ z18 : Int32, Go p l e room_1 (s0.setVm vmk3) m #[(.int p0), (.int p1), (.int p2), (.int p3), (.int p4)] below meth c (FinW s0 below room_1 n0 (fun v vm h => v = some (.int 1))) n0 hd2 72 11000 192 #[.val (.int p0), .val (.int p1), .val (.int p2), .val (.int p3), .val (.int p4), .val (.ref k0), .val (.ref k1), .val (.ref k2), .val (.ref k3), .val (.int (Int32.ofNat 2)), .val (.ref l_0), .val (.ref l_1), .val (.ref ki), .val (.int (1 : Int32)), .unset, .val (.int (Int32.ofNat H1.2)), .val (.int z16), .val (.int (Int32.ofNat H2.2)), .val (.int z18)] [] := by
        intro z18
        refine g_aload Ck3 at_192 (v := (.ref k3)) rfl rfl (q := 194) rfl ?_
        refine g_aload Ck3 at_194 (v := (.ref k0)) rfl rfl (q := 196) rfl ?_
        refine g_callV Ck3 (W := 0) (argsL := [(.ref k0)]) (rest := []) (a := k3) at_196 (wd263 hw) (wd264 hw) (wd266 hw) (wd265 hw) (by decide) (nf_of Ck3 (wd266 hw)) (SS3.keep KL (by simp)).exa (Ctr.bk (c_eqG l Z a0 G cz S0 hcz k3 k0 t3 t0 hd2 n0 XL (SS3.keep KL (by simp)).sl (SS0.keep KL (by simp)).sl) Ck3 (wd267 hw) (wd5 hw) (by decide) (by decide)) (by decide) (by decide) rfl (lenOf pd33 rfl) rfl rfl (q := 199) rfl (fun vq hx hQq => ?_)
        obtain ⟨rfl, re0_, rfl, hAe0_⟩ := hQq
        refine ⟨[(.int re0_)], rfl, ?_⟩
        rcases hAe0_ with ⟨e0_, rfl⟩ | ⟨e0_, rfl⟩
        ·
          refine g_if_eq Ck3 at_199 (q' := 208) (q := 202) (by decide) (by decide) rfl (fun hy => absurd hy (by decide)) (fun hn => ?_)
          refine g_iconst Ck3 at_202 (z := (0 : Int32)) rfl (q := 203) rfl ?_
          refine g_istore Ck3 at_203 (L' := #[.val (.int p0), .val (.int p1), .val (.int p2), .val (.int p3), .val (.int p4), .val (.ref k0), .val (.ref k1), .val (.ref k2), .val (.ref k3), .val (.int (Int32.ofNat 2)), .val (.ref l_0), .val (.ref l_1), .val (.ref ki), .val (.int (1 : Int32)), .val (.int (0 : Int32)), .val (.int (Int32.ofNat H1.2)), .val (.int z16), .val (.int (Int32.ofNat H2.2)), .val (.int z18)]) rfl (q := 205) rfl ?_
          refine g_goto Ck3 at_205 (q := 249) (by decide) (by decide) ?_
          refine g_aload Ck3 at_249 (v := (.ref ki)) rfl rfl (q := 251) rfl ?_
          refine g_aload Ck3 at_251 (v := (.ref k3)) rfl rfl (q := 253) rfl ?_
          refine g_callV Ck3 (W := 0) (argsL := [(.ref k3)]) (rest := []) (a := ki) at_253 (wd94 hw) (wd95 hw) (wd97 hw) (wd96 hw) (by decide) (nf_of Ck3 (wd97 hw)) (eA3 ▸ X3.1.1) (Ctr.bk (c_fileL l Z a0 G cz S0 hcz u SI SU8 hd2 n0 (Nat.le_trans ZL KL.1) XL A3 _ _ H2.1 _ _ _ _ X3 ki eA3 k3 t3 l3 (SS3.keep KL (by simp))) Ck3 (wd98 hw) (wd76 hw) (by decide) (by decide)) (by decide) (by decide) rfl (lenOf pd37 rfl) rfl rfl (q := 256) rfl (fun vf hf hQf => ?_)
          obtain ⟨Kf, rfl⟩ := hQf
          refine ⟨[(.int (look H2.1 (u8 t3)))], rfl, ?_⟩
          refine g_istore Ck3 at_256 (L' := #[.val (.int p0), .val (.int p1), .val (.int p2), .val (.int p3), .val (.int p4), .val (.ref k0), .val (.ref k1), .val (.ref k2), .val (.ref k3), .val (.int (Int32.ofNat 2)), .val (.ref l_0), .val (.ref l_1), .val (.ref ki), .val (.int (1 : Int32)), .val (.int (0 : Int32)), .val (.int (look H2.1 (u8 t3))), .val (.int z16), .val (.int (Int32.ofNat H2.2)), .val (.int z18)]) rfl (q := 258) rfl ?_
          refine g_iload Ck3 at_258 (v := (1 : Int32)) rfl (q := 260) rfl ?_
          refine g_if_eq Ck3 at_260 (q' := 274) (q := 263) (by decide) (by decide) rfl (fun hy => absurd hy (by decide)) (fun hn => ?_)
          refine g_iload Ck3 at_263 (v := (look H2.1 (u8 t3))) rfl (q := 265) rfl ?_
          refine g_iload Ck3 at_265 (v := (0 : Int32)) rfl (q := 267) rfl ?_
          refine g_icmp_ne Ck3 at_267 (q' := 274) (q := 270) (by decide) (by decide) rfl (fun hy => absurd (by rw [P7, if_pos (Or.inl (by rw [e0_]))]) hy) (fun hn => ?_)
          refine g_iconst Ck3 at_270 (z := (1 : Int32)) rfl (q := 271) rfl ?_
          refine g_goto Ck3 at_271 (q := 275) (by decide) (by decide) ?_
          have KL : Keep hc1_0 hf [] := KL.trans Kf (by simp)
          exact g_nreturnW Ck3 (Swk3.mono (Nat.le_trans KSL.1 KL.1)) at_275 (by simp) (z := 1) rfl (Nat.le_refl _) (by decide) (by decide) (fun vm' hW => rfl)
        ·
          refine g_if_eq Ck3 at_199 (q' := 208) (q := 202) (by decide) (by decide) rfl (fun hy => ?_) (fun hn => absurd rfl hn)
          refine g_aload Ck3 at_208 (v := (.ref k3)) rfl rfl (q := 210) rfl ?_
          refine g_aload Ck3 at_210 (v := (.ref k1)) rfl rfl (q := 212) rfl ?_
          refine g_callV Ck3 (W := 0) (argsL := [(.ref k1)]) (rest := []) (a := k3) at_212 (wd263 hw) (wd264 hw) (wd266 hw) (wd265 hw) (by decide) (nf_of Ck3 (wd266 hw)) (SS3.keep KL (by simp)).exa (Ctr.bk (c_eqG l Z a0 G cz S0 hcz k3 k1 t3 t1 hd2 n0 XL (SS3.keep KL (by simp)).sl (SS1.keep KL (by simp)).sl) Ck3 (wd267 hw) (wd5 hw) (by decide) (by decide)) (by decide) (by decide) rfl (lenOf pd33 rfl) rfl rfl (q := 215) rfl (fun vq hx hQq => ?_)
          obtain ⟨rfl, re1_, rfl, hAe1_⟩ := hQq
          refine ⟨[(.int re1_)], rfl, ?_⟩
          rcases hAe1_ with ⟨e1_, rfl⟩ | ⟨e1_, rfl⟩
          ·
            refine g_if_eq Ck3 at_215 (q' := 224) (q := 218) (by decide) (by decide) rfl (fun hy => absurd hy (by decide)) (fun hn => ?_)
            refine g_iconst Ck3 at_218 (z := (0 : Int32)) rfl (q := 219) rfl ?_
            refine g_istore Ck3 at_219 (L' := #[.val (.int p0), .val (.int p1), .val (.int p2), .val (.int p3), .val (.int p4), .val (.ref k0), .val (.ref k1), .val (.ref k2), .val (.ref k3), .val (.int (Int32.ofNat 2)), .val (.ref l_0), .val (.ref l_1), .val (.ref ki), .val (.int (1 : Int32)), .val (.int (0 : Int32)), .val (.int (Int32.ofNat H1.2)), .val (.int z16), .val (.int (Int32.ofNat H2.2)), .val (.int z18)]) rfl (q := 221) rfl ?_
            refine g_goto Ck3 at_221 (q := 249) (by decide) (by decide) ?_
            refine g_aload Ck3 at_249 (v := (.ref ki)) rfl rfl (q := 251) rfl ?_
            refine g_aload Ck3 at_251 (v := (.ref k3)) rfl rfl (q := 253) rfl ?_
            refine g_callV Ck3 (W := 0) (argsL := [(.ref k3)]) (rest := []) (a := ki) at_253 (wd94 hw) (wd95 hw) (wd97 hw) (wd96 hw) (by decide) (nf_of Ck3 (wd97 hw)) (eA3 ▸ X3.1.1) (Ctr.bk (c_fileL l Z a0 G cz S0 hcz u SI SU8 hd2 n0 (Nat.le_trans ZL KL.1) XL A3 _ _ H2.1 _ _ _ _ X3 ki eA3 k3 t3 l3 (SS3.keep KL (by simp))) Ck3 (wd98 hw) (wd76 hw) (by decide) (by decide)) (by decide) (by decide) rfl (lenOf pd37 rfl) rfl rfl (q := 256) rfl (fun vf hf hQf => ?_)
            obtain ⟨Kf, rfl⟩ := hQf
            refine ⟨[(.int (look H2.1 (u8 t3)))], rfl, ?_⟩
            refine g_istore Ck3 at_256 (L' := #[.val (.int p0), .val (.int p1), .val (.int p2), .val (.int p3), .val (.int p4), .val (.ref k0), .val (.ref k1), .val (.ref k2), .val (.ref k3), .val (.int (Int32.ofNat 2)), .val (.ref l_0), .val (.ref l_1), .val (.ref ki), .val (.int (1 : Int32)), .val (.int (0 : Int32)), .val (.int (look H2.1 (u8 t3))), .val (.int z16), .val (.int (Int32.ofNat H2.2)), .val (.int z18)]) rfl (q := 258) rfl ?_
            refine g_iload Ck3 at_258 (v := (1 : Int32)) rfl (q := 260) rfl ?_
            refine g_if_eq Ck3 at_260 (q' := 274) (q := 263) (by decide) (by decide) rfl (fun hy => absurd hy (by decide)) (fun hn => ?_)
            refine g_iload Ck3 at_263 (v := (look H2.1 (u8 t3))) rfl (q := 265) rfl ?_
            refine g_iload Ck3 at_265 (v := (0 : Int32)) rfl (q := 267) rfl ?_
            refine g_icmp_ne Ck3 at_267 (q' := 274) (q := 270) (by decide) (by decide) rfl (fun hy => absurd (by rw [P7, if_pos (Or.inr (by rw [e1_]))]) hy) (fun hn => ?_)
            refine g_iconst Ck3 at_270 (z := (1 : Int32)) rfl (q := 271) rfl ?_
            refine g_goto Ck3 at_271 (q := 275) (by decide) (by decide) ?_
            have KL : Keep hc1_0 hf [] := KL.trans Kf (by simp)
            exact g_nreturnW Ck3 (Swk3.mono (Nat.le_trans KSL.1 KL.1)) at_275 (by simp) (z := 1) rfl (Nat.le_refl _) (by decide) (by decide) (fun vm' hW => rfl)
          ·
            refine g_if_eq Ck3 at_215 (q' := 224) (q := 218) (by decide) (by decide) rfl (fun hy => ?_) (fun hn => absurd rfl hn)
            refine g_iload Ck3 at_224 (v := (Int32.ofNat 2)) rfl (q := 226) rfl ?_
            refine g_iconst Ck3 at_226 (z := (2 : Int32)) rfl (q := 227) rfl ?_
            refine g_icmp_ne Ck3 at_227 (q' := 246) (q := 230) (by decide) (by decide) rfl (fun hy => absurd rfl hy) (fun hn => ?_)
            refine g_aload Ck3 at_230 (v := (.ref k3)) rfl rfl (q := 232) rfl ?_
            refine g_aload Ck3 at_232 (v := (.ref k2)) rfl rfl (q := 234) rfl ?_
            refine g_callV Ck3 (W := 0) (argsL := [(.ref k2)]) (rest := []) (a := k3) at_234 (wd263 hw) (wd264 hw) (wd266 hw) (wd265 hw) (by decide) (nf_of Ck3 (wd266 hw)) (SS3.keep KL (by simp)).exa (Ctr.bk (c_eqG l Z a0 G cz S0 hcz k3 k2 t3 t2 hd2 n0 XL (SS3.keep KL (by simp)).sl (SS2.keep KL (by simp)).sl) Ck3 (wd267 hw) (wd5 hw) (by decide) (by decide)) (by decide) (by decide) rfl (lenOf pd33 rfl) rfl rfl (q := 237) rfl (fun vq hx hQq => ?_)
            obtain ⟨rfl, re2_, rfl, hAe2_⟩ := hQq
            refine ⟨[(.int re2_)], rfl, ?_⟩
            rcases hAe2_ with ⟨e2_, rfl⟩ | ⟨e2_, rfl⟩
            ·
              refine g_if_eq Ck3 at_237 (q' := 246) (q := 240) (by decide) (by decide) rfl (fun hy => absurd hy (by decide)) (fun hn => ?_)
              refine g_iconst Ck3 at_240 (z := (1 : Int32)) rfl (q := 241) rfl ?_
              refine g_istore Ck3 at_241 (L' := #[.val (.int p0), .val (.int p1), .val (.int p2), .val (.int p3), .val (.int p4), .val (.ref k0), .val (.ref k1), .val (.ref k2), .val (.ref k3), .val (.int (Int32.ofNat 2)), .val (.ref l_0), .val (.ref l_1), .val (.ref ki), .val (.int (1 : Int32)), .val (.int (1 : Int32)), .val (.int (Int32.ofNat H1.2)), .val (.int z16), .val (.int (Int32.ofNat H2.2)), .val (.int z18)]) rfl (q := 243) rfl ?_
              refine g_goto Ck3 at_243 (q := 249) (by decide) (by decide) ?_
              refine g_aload Ck3 at_249 (v := (.ref ki)) rfl rfl (q := 251) rfl ?_
              refine g_aload Ck3 at_251 (v := (.ref k3)) rfl rfl (q := 253) rfl ?_
              refine g_callV Ck3 (W := 0) (argsL := [(.ref k3)]) (rest := []) (a := ki) at_253 (wd94 hw) (wd95 hw) (wd97 hw) (wd96 hw) (by decide) (nf_of Ck3 (wd97 hw)) (eA3 ▸ X3.1.1) (Ctr.bk (c_fileL l Z a0 G cz S0 hcz u SI SU8 hd2 n0 (Nat.le_trans ZL KL.1) XL A3 _ _ H2.1 _ _ _ _ X3 ki eA3 k3 t3 l3 (SS3.keep KL (by simp))) Ck3 (wd98 hw) (wd76 hw) (by decide) (by decide)) (by decide) (by decide) rfl (lenOf pd37 rfl) rfl rfl (q := 256) rfl (fun vf hf hQf => ?_)
              obtain ⟨Kf, rfl⟩ := hQf
              refine ⟨[(.int (look H2.1 (u8 t3)))], rfl, ?_⟩
              refine g_istore Ck3 at_256 (L' := #[.val (.int p0), .val (.int p1), .val (.int p2), .val (.int p3), .val (.int p4), .val (.ref k0), .val (.ref k1), .val (.ref k2), .val (.ref k3), .val (.int (Int32.ofNat 2)), .val (.ref l_0), .val (.ref l_1), .val (.ref ki), .val (.int (1 : Int32)), .val (.int (1 : Int32)), .val (.int (look H2.1 (u8 t3))), .val (.int z16), .val (.int (Int32.ofNat H2.2)), .val (.int z18)]) rfl (q := 258) rfl ?_
              refine g_iload Ck3 at_258 (v := (1 : Int32)) rfl (q := 260) rfl ?_
              refine g_if_eq Ck3 at_260 (q' := 274) (q := 263) (by decide) (by decide) rfl (fun hy => absurd hy (by decide)) (fun hn => ?_)
              refine g_iload Ck3 at_263 (v := (look H2.1 (u8 t3))) rfl (q := 265) rfl ?_
              refine g_iload Ck3 at_265 (v := (1 : Int32)) rfl (q := 267) rfl ?_
              refine g_icmp_ne Ck3 at_267 (q' := 274) (q := 270) (by decide) (by decide) rfl (fun hy => absurd (by rw [P7, if_neg (fun q => q.elim (fun q => e0_ (u8_inj b3 b0 q)) (fun q => e1_ (u8_inj b3 b1 q))), if_pos (by rw [e2_])]) hy) (fun hn => ?_)
              refine g_iconst Ck3 at_270 (z := (1 : Int32)) rfl (q := 271) rfl ?_
              refine g_goto Ck3 at_271 (q := 275) (by decide) (by decide) ?_
              have KL : Keep hc1_0 hf [] := KL.trans Kf (by simp)
              exact g_nreturnW Ck3 (Swk3.mono (Nat.le_trans KSL.1 KL.1)) at_275 (by simp) (z := 1) rfl (Nat.le_refl _) (by decide) (by decide) (fun vm' hW => rfl)
            ·
              refine g_if_eq Ck3 at_237 (q' := 246) (q := 240) (by decide) (by decide) rfl (fun hy => ?_) (fun hn => absurd rfl hn)
              refine g_iconst Ck3 at_246 (z := (-1 : Int32)) rfl (q := 247) rfl ?_
              refine g_istore Ck3 at_247 (L' := #[.val (.int p0), .val (.int p1), .val (.int p2), .val (.int p3), .val (.int p4), .val (.ref k0), .val (.ref k1), .val (.ref k2), .val (.ref k3), .val (.int (Int32.ofNat 2)), .val (.ref l_0), .val (.ref l_1), .val (.ref ki), .val (.int (1 : Int32)), .val (.int (-1 : Int32)), .val (.int (Int32.ofNat H1.2)), .val (.int z16), .val (.int (Int32.ofNat H2.2)), .val (.int z18)]) rfl (q := 249) rfl ?_
              refine g_aload Ck3 at_249 (v := (.ref ki)) rfl rfl (q := 251) rfl ?_
              refine g_aload Ck3 at_251 (v := (.ref k3)) rfl rfl (q := 253) rfl ?_
              refine g_callV Ck3 (W := 0) (argsL := [(.ref k3)]) (rest := []) (a := ki) at_253 (wd94 hw) (wd95 hw) (wd97 hw) (wd96 hw) (by decide) (nf_of Ck3 (wd97 hw)) (eA3 ▸ X3.1.1) (Ctr.bk (c_fileL l Z a0 G cz S0 hcz u SI SU8 hd2 n0 (Nat.le_trans ZL KL.1) XL A3 _ _ H2.1 _ _ _ _ X3 ki eA3 k3 t3 l3 (SS3.keep KL (by simp))) Ck3 (wd98 hw) (wd76 hw) (by decide) (by decide)) (by decide) (by decide) rfl (lenOf pd37 rfl) rfl rfl (q := 256) rfl (fun vf hf hQf => ?_)
              obtain ⟨Kf, rfl⟩ := hQf
              refine ⟨[(.int (look H2.1 (u8 t3)))], rfl, ?_⟩
              refine g_istore Ck3 at_256 (L' := #[.val (.int p0), .val (.int p1), .val (.int p2), .val (.int p3), .val (.int p4), .val (.ref k0), .val (.ref k1), .val (.ref k2), .val (.ref k3), .val (.int (Int32.ofNat 2)), .val (.ref l_0), .val (.ref l_1), .val (.ref ki), .val (.int (1 : Int32)), .val (.int (-1 : Int32)), .val (.int (look H2.1 (u8 t3))), .val (.int z16), .val (.int (Int32.ofNat H2.2)), .val (.int z18)]) rfl (q := 258) rfl ?_
              refine g_iload Ck3 at_258 (v := (1 : Int32)) rfl (q := 260) rfl ?_
              refine g_if_eq Ck3 at_260 (q' := 274) (q := 263) (by decide) (by decide) rfl (fun hy => absurd hy (by decide)) (fun hn => ?_)
              refine g_iload Ck3 at_263 (v := (look H2.1 (u8 t3))) rfl (q := 265) rfl ?_
              refine g_iload Ck3 at_265 (v := (-1 : Int32)) rfl (q := 267) rfl ?_
              refine g_icmp_ne Ck3 at_267 (q' := 274) (q := 270) (by decide) (by decide) rfl (fun hy => absurd (by rw [P7, if_neg (fun q => q.elim (fun q => e0_ (u8_inj b3 b0 q)) (fun q => e1_ (u8_inj b3 b1 q))), if_neg (fun q => e2_ (u8_inj b3 b2 q))]) hy) (fun hn => ?_)
              refine g_iconst Ck3 at_270 (z := (1 : Int32)) rfl (q := 271) rfl ?_
              refine g_goto Ck3 at_271 (q := 275) (by decide) (by decide) ?_
              have KL : Keep hc1_0 hf [] := KL.trans Kf (by simp)
              exact g_nreturnW Ck3 (Swk3.mono (Nat.le_trans KSL.1 KL.1)) at_275 (by simp) (z := 1) rfl (Nat.le_refl _) (by decide) (by decide) (fun vm' hW => rfl)
      refine g_aload Ck3 at_155 (v := (.ref k2)) rfl rfl (q := 157) rfl ?_
      refine g_aload Ck3 at_157 (v := (.ref k0)) rfl rfl (q := 159) rfl ?_
      refine g_callV Ck3 (W := 0) (argsL := [(.ref k0)]) (rest := []) (a := k2) at_159 (wd263 hw) (wd264 hw) (wd266 hw) (wd265 hw) (by decide) (nf_of Ck3 (wd266 hw)) (SS2.keep KL (by simp)).exa (Ctr.bk (c_eqG l Z a0 G cz S0 hcz k2 k0 t2 t0 hd2 n0 XL (SS2.keep KL (by simp)).sl (SS0.keep KL (by simp)).sl) Ck3 (wd267 hw) (wd5 hw) (by decide) (by decide)) (by decide) (by decide) rfl (lenOf pd33 rfl) rfl rfl (q := 162) rfl (fun vq hx hQq => ?_)
      obtain ⟨rfl, rc0_, rfl, hAc0_⟩ := hQq
      refine ⟨[(.int rc0_)], rfl, ?_⟩
      rcases hAc0_ with ⟨c0_, rfl⟩ | ⟨c0_, rfl⟩
      ·
        rw [if_pos (Or.inl c0_)] at P6
        refine g_if_ne Ck3 at_162 (q' := 175) (q := 165) (by decide) (by decide) rfl (fun hy => ?_) (fun hn => absurd hn (by decide))
        refine g_iconst Ck3 at_175 (z := (0 : Int32)) rfl (q := 176) rfl ?_
        refine g_goto Ck3 at_176 (q := 180) (by decide) (by decide) ?_
        refine g_istore Ck3 at_180 (L' := #[.val (.int p0), .val (.int p1), .val (.int p2), .val (.int p3), .val (.int p4), .val (.ref k0), .val (.ref k1), .val (.ref k2), .val (.ref k3), .val (.int (Int32.ofNat 2)), .val (.ref l_0), .val (.ref l_1), .val (.ref ki), .val (.int (1 : Int32)), .unset, .val (.int (Int32.ofNat H1.2)), .val (.int z16), .val (.int (Int32.ofNat H2.2)), .val (.int (0 : Int32))]) rfl (q := 182) rfl ?_
        refine g_iload Ck3 at_182 (v := (Int32.ofNat H2.2)) rfl (q := 184) rfl ?_
        refine g_iload Ck3 at_184 (v := (0 : Int32)) rfl (q := 186) rfl ?_
        refine g_icmp_eq Ck3 at_186 (q' := 192) (q := 189) (by decide) (by decide) rfl (fun hy => ?_) (fun hn => absurd (by rw [P6]; rfl) hn)
        exact Go.more (by decide) (by decide) (J192 _)
      ·
        refine g_if_ne Ck3 at_162 (q' := 175) (q := 165) (by decide) (by decide) rfl (fun hy => absurd rfl hy) (fun hn => ?_)
        refine g_aload Ck3 at_165 (v := (.ref k2)) rfl rfl (q := 167) rfl ?_
        refine g_aload Ck3 at_167 (v := (.ref k1)) rfl rfl (q := 169) rfl ?_
        refine g_callV Ck3 (W := 0) (argsL := [(.ref k1)]) (rest := []) (a := k2) at_169 (wd263 hw) (wd264 hw) (wd266 hw) (wd265 hw) (by decide) (nf_of Ck3 (wd266 hw)) (SS2.keep KL (by simp)).exa (Ctr.bk (c_eqG l Z a0 G cz S0 hcz k2 k1 t2 t1 hd2 n0 XL (SS2.keep KL (by simp)).sl (SS1.keep KL (by simp)).sl) Ck3 (wd267 hw) (wd5 hw) (by decide) (by decide)) (by decide) (by decide) rfl (lenOf pd33 rfl) rfl rfl (q := 172) rfl (fun vq hx hQq => ?_)
        obtain ⟨rfl, rc1_, rfl, hAc1_⟩ := hQq
        refine ⟨[(.int rc1_)], rfl, ?_⟩
        rcases hAc1_ with ⟨c1_, rfl⟩ | ⟨c1_, rfl⟩
        ·
          rw [if_pos (Or.inr c1_)] at P6
          refine g_if_eq Ck3 at_172 (q' := 179) (q := 175) (by decide) (by decide) rfl (fun hy => absurd hy (by decide)) (fun hn => ?_)
          refine g_iconst Ck3 at_175 (z := (0 : Int32)) rfl (q := 176) rfl ?_
          refine g_goto Ck3 at_176 (q := 180) (by decide) (by decide) ?_
          refine g_istore Ck3 at_180 (L' := #[.val (.int p0), .val (.int p1), .val (.int p2), .val (.int p3), .val (.int p4), .val (.ref k0), .val (.ref k1), .val (.ref k2), .val (.ref k3), .val (.int (Int32.ofNat 2)), .val (.ref l_0), .val (.ref l_1), .val (.ref ki), .val (.int (1 : Int32)), .unset, .val (.int (Int32.ofNat H1.2)), .val (.int z16), .val (.int (Int32.ofNat H2.2)), .val (.int (0 : Int32))]) rfl (q := 182) rfl ?_
          refine g_iload Ck3 at_182 (v := (Int32.ofNat H2.2)) rfl (q := 184) rfl ?_
          refine g_iload Ck3 at_184 (v := (0 : Int32)) rfl (q := 186) rfl ?_
          refine g_icmp_eq Ck3 at_186 (q' := 192) (q := 189) (by decide) (by decide) rfl (fun hy => ?_) (fun hn => absurd (by rw [P6]; rfl) hn)
          exact Go.more (by decide) (by decide) (J192 _)
        ·
          rw [if_neg (fun q => q.elim c0_ c1_)] at P6
          refine g_if_eq Ck3 at_172 (q' := 179) (q := 175) (by decide) (by decide) rfl (fun hy => ?_) (fun hn => absurd rfl hn)
          refine g_iconst Ck3 at_179 (z := (1 : Int32)) rfl (q := 180) rfl ?_
          refine g_istore Ck3 at_180 (L' := #[.val (.int p0), .val (.int p1), .val (.int p2), .val (.int p3), .val (.int p4), .val (.ref k0), .val (.ref k1), .val (.ref k2), .val (.ref k3), .val (.int (Int32.ofNat 2)), .val (.ref l_0), .val (.ref l_1), .val (.ref ki), .val (.int (1 : Int32)), .unset, .val (.int (Int32.ofNat H1.2)), .val (.int z16), .val (.int (Int32.ofNat H2.2)), .val (.int (1 : Int32))]) rfl (q := 182) rfl ?_
          refine g_iload Ck3 at_182 (v := (Int32.ofNat H2.2)) rfl (q := 184) rfl ?_
          refine g_iload Ck3 at_184 (v := (1 : Int32)) rfl (q := 186) rfl ?_
          refine g_icmp_eq Ck3 at_186 (q' := 192) (q := 189) (by decide) (by decide) rfl (fun hy => ?_) (fun hn => absurd (by rw [P6]; rfl) hn)
          exact Go.more (by decide) (by decide) (J192 _)
    refine g_aload Ck3 at_113 (v := (.ref k1)) rfl rfl (q := 115) rfl ?_
    refine g_aload Ck3 at_115 (v := (.ref k0)) rfl rfl (q := 117) rfl ?_
    refine g_callV Ck3 (W := 0) (argsL := [(.ref k0)]) (rest := []) (a := k1) at_117 (wd263 hw) (wd264 hw) (wd266 hw) (wd265 hw) (by decide) (nf_of Ck3 (wd266 hw)) (SS1.keep KL (by simp)).exa (Ctr.bk (c_eqG l Z a0 G cz S0 hcz k1 k0 t1 t0 hd1 n0 XL (SS1.keep KL (by simp)).sl (SS0.keep KL (by simp)).sl) Ck3 (wd267 hw) (wd5 hw) (by decide) (by decide)) (by decide) (by decide) rfl (lenOf pd33 rfl) rfl rfl (q := 120) rfl (fun vq hx hQq => ?_)
    obtain ⟨rfl, rc_, rfl, hAc_⟩ := hQq
    refine ⟨[(.int rc_)], rfl, ?_⟩
    rcases hAc_ with ⟨c_, rfl⟩ | ⟨c_, rfl⟩
    ·
      rw [if_pos c_] at P2
      refine g_if_eq Ck3 at_120 (q' := 127) (q := 123) (by decide) (by decide) rfl (fun hy => absurd hy (by decide)) (fun hn => ?_)
      refine g_iconst Ck3 at_123 (z := (1 : Int32)) rfl (q := 124) rfl ?_
      refine g_goto Ck3 at_124 (q := 128) (by decide) (by decide) ?_
      refine g_istore Ck3 at_128 (L' := #[.val (.int p0), .val (.int p1), .val (.int p2), .val (.int p3), .val (.int p4), .val (.ref k0), .val (.ref k1), .val (.ref k2), .val (.ref k3), .val (.int (Int32.ofNat 2)), .val (.ref l_0), .val (.ref l_1), .val (.ref ki), .val (.int (1 : Int32)), .unset, .val (.int (Int32.ofNat H1.2)), .val (.int (1 : Int32)), .unset, .unset]) rfl (q := 130) rfl ?_
      refine g_iload Ck3 at_130 (v := (Int32.ofNat H1.2)) rfl (q := 132) rfl ?_
      refine g_iload Ck3 at_132 (v := (1 : Int32)) rfl (q := 134) rfl ?_
      refine g_icmp_eq Ck3 at_134 (q' := 140) (q := 137) (by decide) (by decide) rfl (fun hy => ?_) (fun hn => absurd (by rw [P2]; rfl) hn)
      refine g_iload Ck3 at_140 (v := (Int32.ofNat 2)) rfl (q := 142) rfl ?_
      refine g_iconst Ck3 at_142 (z := (2 : Int32)) rfl (q := 143) rfl ?_
      refine g_icmp_ne Ck3 at_143 (q' := 192) (q := 146) (by decide) (by decide) rfl (fun hy => absurd rfl hy) (fun hn => ?_)
      exact Go.more (by decide) (by decide) (J146 _)
    ·
      rw [if_neg c_] at P2
      refine g_if_eq Ck3 at_120 (q' := 127) (q := 123) (by decide) (by decide) rfl (fun hy => ?_) (fun hn => absurd rfl hn)
      refine g_iconst Ck3 at_127 (z := (2 : Int32)) rfl (q := 128) rfl ?_
      refine g_istore Ck3 at_128 (L' := #[.val (.int p0), .val (.int p1), .val (.int p2), .val (.int p3), .val (.int p4), .val (.ref k0), .val (.ref k1), .val (.ref k2), .val (.ref k3), .val (.int (Int32.ofNat 2)), .val (.ref l_0), .val (.ref l_1), .val (.ref ki), .val (.int (1 : Int32)), .unset, .val (.int (Int32.ofNat H1.2)), .val (.int (2 : Int32)), .unset, .unset]) rfl (q := 130) rfl ?_
      refine g_iload Ck3 at_130 (v := (Int32.ofNat H1.2)) rfl (q := 132) rfl ?_
      refine g_iload Ck3 at_132 (v := (2 : Int32)) rfl (q := 134) rfl ?_
      refine g_icmp_eq Ck3 at_134 (q' := 140) (q := 137) (by decide) (by decide) rfl (fun hy => ?_) (fun hn => absurd (by rw [P2]; rfl) hn)
      refine g_iload Ck3 at_140 (v := (Int32.ofNat 2)) rfl (q := 142) rfl ?_
      refine g_iconst Ck3 at_142 (z := (2 : Int32)) rfl (q := 143) rfl ?_
      refine g_icmp_ne Ck3 at_143 (q' := 192) (q := 146) (by decide) (by decide) rfl (fun hy => absurd rfl hy) (fun hn => ?_)
      exact Go.more (by decide) (by decide) (J146 _)
theorem eq_int' {t : Term} {n : Int32} {args : Array Value} {s : State} (h : (Cond.eq t (.int n)).before args s = true) : t.eval args s none [] s = some (.int n) := by
  have h := Cond.before_iff.mp h
  simp only [Cond.value, Term.int_eval] at h
  cases e : t.eval args s none [] s with
  | none => simp [e] at h
  | some v => cases v <;> simp [e] at h ⊢; exact h
theorem field_eval {t : Term} {C f d : String} {args : Array Value} {s : State} {a : Addr} (e : t.eval args s none [] s = some (.ref a)) : (Term.field t C f d).eval args s none [] s = s.fieldOf? a C f d := by
  simp [Term.eval, e]
theorem arr_len {t : Term} {ty : FieldType} {args : Array Value} {s : State} {a : Addr} {n : Nat} (hn : n < 2 ^ 31) (ev : t.eval args s none [] s = some (.ref a)) (h1 : (Cond.arrayOf t ty).before args s = true) (h2 : (Cond.eq (Term.length t) (.int (Int32.ofNat n))).before args s = true) : ∃ c : Cell, Arr s s.heap a c ty ∧ c.slots.size = n := by
  obtain ⟨c, A⟩ := Arr.start ev (Cond.before_iff.mp h1)
  refine ⟨c, A, ?_⟩
  have e := eq_int' h2
  have hc : s.arrayAt? a = some c := Arr.fin (Vm.Alike.refl _) A
  simp only [Term.eval, ev, hc, Option.bind_eq_bind, Option.bind_some, Option.pure_def] at e
  split at e
  · rename_i hlt
    have e2 := Value.int.inj (Option.some.inj e)
    have e3 := congrArg Int32.toInt e2
    rw [Int32.toInt_ofNat_of_lt hn, show c.slots.size.toInt32 = Int32.ofNat c.slots.size from rfl, Int32.toInt_ofNat_of_lt hlt] at e3
    omega
  · cases e
theorem arr_len0 {t : Term} {ty : FieldType} {args : Array Value} {s : State} {a : Addr} (ev : t.eval args s none [] s = some (.ref a)) (h1 : (Cond.arrayOf t ty).before args s = true) (h2 : (Cond.eq (Term.length t) (.int 0)).before args s = true) : ∃ f, Av s s.heap a ty 0 f := by
  obtain ⟨c, A, e⟩ := arr_len (n := 0) (by decide) ev h1 h2
  exact ⟨fun _ => .null, c, A, e, by decide, fun j hj => absurd hj (by omega)⟩
theorem eq_ref' {t u : Term} {a : Addr} {args : Array Value} {s : State} (hu : u.eval args s none [] s = some (.ref a)) (h : (Cond.eq t u).before args s = true) : t.eval args s none [] s = some (.ref a) := by
  have h := Cond.before_iff.mp h
  simp only [Cond.value, hu] at h
  cases e : t.eval args s none [] s with
  | none => simp [e] at h
  | some v => cases v <;> simp [e] at h ⊢; exact h
set_option maxRecDepth 65536 in
set_option maxHeartbeats 40000000 in
theorem comes_1 {Post : Tables → Env → Array Value → State → Outcome → State → Prop} (hpost : ∀ tb e args s v u, (limb_1_1.after args s (.returned v) u = true ∧ limb_1_2.after args s (.returned v) u = true ∧ True) → ReturnedEndW s (.returned v) u (Jvm.fieldLocs frame_1_writes args s ++ Jvm.arrayLocs frame_1_arrays args s ++ Jvm.staticLocs frame_1_statics s) 80 11584 → Post tb e args s (.returned v) u) :
    ArmFor flags0 classFile x code maxLocals ret World_1 tables_1 room_1 Calls_1 rest_1 Pre_1 Post := by
  intro l hfl _ _ p e ha hc hk s m args below hf hA hF happ hP
  obtain ⟨hcalls, hrest, hpre⟩ := hP
  obtain ⟨-, -, -, hnamed, -, -, -, hat⟩ := (Spec.applies_iff hf).mp happ
  obtain ⟨hg, hn⟩ := and_e (Cond.before_iff.mp (show (Jvm.Cond.and given_1 narrow_1).before args s = true from hpre))
  obtain ⟨hcount, hg0⟩ := and_e hg
  obtain ⟨ha0, hg1⟩ := and_e hg0
  obtain ⟨ha1, hg2⟩ := and_e hg1
  obtain ⟨ha2, hg3⟩ := and_e hg2
  obtain ⟨ha3, hg4⟩ := and_e hg3
  have ha4 := hg4
  obtain ⟨w0, w1, w2, w3, w4, rfl⟩ : ∃ w0 w1 w2 w3 w4 : Value, args = #[w0, w1, w2, w3, w4] := by
    have hs : args.size = 5 := by simpa [Cond.value, given_1] using hcount
    obtain ⟨L⟩ := args
    match L, hs with
    | [w0, w1, w2, w3, w4], _ => exact ⟨w0, w1, w2, w3, w4, rfl⟩
  have hw := fun d (hd : d ∈ tables_1) => atoms_spec (ws := Jvm.Cond.code x code maxLocals ret :: tables_1) hat d (List.mem_cons_of_mem _ hd)
  obtain ⟨hsets, hown0⟩ := atoms_of _ (rest_1_c_eq ▸ (show rest_1_c.before _ s = true from hrest))
  have hfit : Fit s := fun {y c} hc i hi => by
    obtain ⟨ha, rfl⟩ := Array.getElem?_eq_some_iff.mp hc
    have q := List.all_eq_true.mp ((Array.all_eq_true_iff_forall_mem.mp hF) _ (Array.getElem_mem ha)) i (List.mem_range.mpr hi)
    simpa [Array.getElem?_eq_getElem hi] using q
  obtain ⟨x0, ea0⟩ := is_v ha0
  obtain rfl : w0 = (.int x0) := Option.some.inj ea0
  obtain ⟨x1, ea1⟩ := is_v ha1
  obtain rfl : w1 = (.int x1) := Option.some.inj ea1
  obtain ⟨x2, ea2⟩ := is_v ha2
  obtain rfl : w2 = (.int x2) := Option.some.inj ea2
  obtain ⟨x3, ea3⟩ := is_v ha3
  obtain rfl : w3 = (.int x3) := Option.some.inj ea3
  obtain ⟨x4, ea4⟩ := is_v ha4
  obtain rfl : w4 = (.int x4) := Option.some.inj ea4
  have n5' := (hsets _ (List.mem_of_getElem? (i := 17) rfl))
  have n5 := not_v (Cond.before_iff.mp n5')
  obtain ⟨cz, e10⟩ := is_v (Cond.before_iff.mp (hsets _ (List.mem_of_getElem? (i := 16) rfl)))
  have S0 : Sta s s.heap "java/lang/String" "COMPACT_STRINGS" "Z" (.int cz) := Sta.start e10 (Or.inl (hsets _ (List.mem_of_getElem? (i := 15) rfl)))
  have hcz : ¬ (cz = (0 : Int32)) := gotF (Cond.eq_ints e10 (Term.int_eval (0))) n5
  obtain ⟨De, -, -, -, eD, -⟩ := Cond.exactly_spec (hsets _ (List.mem_of_getElem? (i := 7) rfl))
  have SD := Sta.start eD (Or.inr ⟨(wd15 hw), (hsets _ (List.mem_of_getElem? (i := 2) rfl))⟩)
  obtain ⟨fD, AD⟩ := arr_len0 eD (hsets _ (List.mem_of_getElem? (i := 6) rfl)) (hsets _ (List.mem_of_getElem? (i := 8) rfl))
  obtain ⟨u, -, -, -, eu, -⟩ := Cond.exactly_spec (hsets _ (List.mem_of_getElem? (i := 26) rfl))
  have SI := Sta.start eu (Or.inl (hsets _ (List.mem_of_getElem? (i := 12) rfl)))
  have SU8 := Sta.start (eq_ref' eu (hsets _ (List.mem_of_getElem? (i := 13) rfl))) (Or.inl (hsets _ (List.mem_of_getElem? (i := 10) rfl)))
  have hEW : EW s _ ELs := EW.cons (text := "") (wd4 hw) (by simp) EW.nil
  have hH : CHv s ELs s.vm s.heap := CHv.start hEW (fun q hq => hcalls.1 q (by simpa [ELs, consts_1] using hq)) n5' (wd7 hw) (wd6 hw)
  obtain ⟨n, o, h1, h2, h3, _, L, rfl, ⟨rfl, N⟩, hq⟩ := c_law l s _ ⟨hw, hEW⟩ cz S0 hcz u SI SU8 De SD fD AD x0 x1 x2 x3 x4 s.heap s.heap.size (Nat.le_refl _) (Ext.rfl' _) p e ha hc hk s m _ below hf (app_less hf ((Spec.applies_iff_loose hf).mp happ).1) ⟨rfl, State.Warmed39.refl s, rfl, hH⟩ trivial
  refine ⟨n, _, h1, h2, h3, hpost _ _ _ _ _ _ ⟨Cond.after_iff.mpr rfl, Cond.after_iff.mpr (eq_i res_at (Term.int_eval (1)) rfl), trivial⟩ ⟨hq.1, hq.2.1, hq.2.2.1, (hq.2.2.2.sift fun y hy => Or.inr (N y hy)).mono (by decide) (by decide)⟩⟩
theorem main_1_1 : Claimed_1_1 := comes_1 fun _ _ _ _ _ _ h hF => ⟨h.1, hF⟩
theorem main_1_2 : Claimed_1_2 := comes_1 fun _ _ _ _ _ _ h hF => ⟨h.2.1, hF⟩
end Jvm.Pilot.@@N@@
namespace Jvm.Pilot.@@N@@
open Jvm Jvm.ClassFile Sem Op Lib Jvm.Free Jvm.Stand Jvm.Pilot.@@N@@.Jvm.D
/-! MADE BY PROGRAM (witnessworld.py) out of the Statement's table words and the real class files: 41 classes; the members and pool entries that the words name. The judged class is class 1, her method 2. -/
namespace start1
open Jvm.ClassFile
def u (s : String) : CpInfo := .utf8 (stringToUtf16 s)
/-- a pool by its gaps: so many unusable entries, then the entry; so many at the end -/
def gap : Nat → List CpInfo → List CpInfo
  | 0, r => r
  | n + 1, r => .unusable :: gap n r
def poolList (es : List (Nat × CpInfo)) (last : Nat) : List CpInfo := es.foldr (fun e r => gap e.1 (e.2 :: r)) (gap last [])
def pool (es : List (Nat × CpInfo)) (last : Nat) : Array CpInfo := ⟨poolList es last⟩
def fileOf (pool : Array CpInfo) (this : Nat) (attrs : Array Attribute := #[]) (ms : Array MethodInfo := #[]) (fl : Nat := 33) (sup : Nat := 0) (ifs : Array Nat := #[]) (fds : Array FieldInfo := #[]) : ClassFile where
  minorVersion := 0
  majorVersion := 65
  constantPool := pool
  accessFlags := fl
  thisClass := this
  superClass := sup
  interfaces := ifs
  fields := fds
  methods := ms
  attributes := attrs
def plain (name : String) (sup : Option ClassId) : Class where
  name := name
  kind := .ordinary
  loader := none
  accessFlags := 33
  super := sup
  interfaces := #[]
  cf := none
  fields := #[]
  methods := #[]
  instanceTypes := #[]
  staticTypes := #[]
  resolved := #[]
  callSites := []
  init := .initialized
  statics := none
  mirror := none

def pool0 : Array CpInfo := pool [(5, u "<init>"), (0, u "()V"), (1, .class_ 10), (1, u "java/lang/Object"), (85, u "clone"), (0, u "()Ljava/lang/Object;")] 26

def k0c0 : Code := { maxStack := 0, maxLocals := 1, code := object_method_1_code, exceptionTable := #[], attributes := #[] }
def k0m0 : Method := { name := "<init>", desc := "()V", sig := { parameters := [], returnType := none }, accessFlags := 1, code := some k0c0 }
def k0m1 : Method := { name := "clone", desc := "()Ljava/lang/Object;", sig := { parameters := [], returnType := some (.object "java/lang/Object") }, accessFlags := 260, code := none }
/-- java/lang/Object -/
def k0 : Class := { plain "java/lang/Object" none with
  accessFlags := 33
  interfaces := #[]
  cf := some (fileOf pool0 8 #[] #[{ accessFlags := 1, nameIndex := 5, descriptorIndex := 6, attributes := #[] }, { accessFlags := 260, nameIndex := 96, descriptorIndex := 97, attributes := #[] }] 33 0 #[] #[])
  fields := #[]
  methods := #[k0m0, k0m1]
  instanceTypes := #[]
  staticTypes := #[]
  resolved := Array.replicate 124 none
  statics := none }

def pool1 : Array CpInfo := pool [(2, .class_ 4), (0, .nameAndType 5 6), (0, u "java/lang/Object"), (0, u "<init>"), (0, u "()V"), (0, .string 8), (0, u ""), (0, .methodref 10 11), (0, .class_ 12), (0, .nameAndType 13 14), (0, u "java/lang/String"), (0, u "valueOf"), (0, u "(C)Ljava/lang/String;"), (0, .methodref 10 16), (0, .nameAndType 5 17), (0, u "([C)V"), (0, .methodref 19 20), (0, .class_ 21), (0, .nameAndType 22 23), (0, u "com/example/recordweave/recordweave/store/KeyIndexFileOfPinLaw"), (0, u "key"), (0, u "(I)Ljava/lang/String;"), (0, .integer 2147483647), (0, .class_ 26), (0, u "java/util/ArrayList"), (0, .methodref 25 3), (0, .interfaceMethodref 29 30), (0, .class_ 31), (0, .nameAndType 32 33), (0, u "java/util/List"), (0, u "add"), (0, u "(Ljava/lang/Object;)Z"), (0, .class_ 35), (0, u "com/example/recordweave/recordweave/store/KeyIndex"), (0, .methodref 34 3), (0, .methodref 34 38), (0, .nameAndType 32 39), (0, u "(Ljava/util/List;)I"), (0, .methodref 10 41), (0, .nameAndType 42 33), (0, u "equals"), (0, .methodref 34 44), (0, .nameAndType 45 46), (0, u "fileOf"), (0, u "(Ljava/lang/String;)I"), (3, u "law"), (0, u "(IIIII)Z")] 2

def k1m0 : Method := { name := "<init>", desc := "()V", sig := { parameters := [], returnType := none }, accessFlags := 1, code := none }
def k1c1 : Code := { maxStack := 3, maxLocals := 5, code := method_2_code, exceptionTable := #[], attributes := #[] }
def k1m1 : Method := { name := "key", desc := "(I)Ljava/lang/String;", sig := { parameters := [.int], returnType := some (.object "java/lang/String") }, accessFlags := 10, code := some k1c1 }
def k1c2 : Code := { maxStack := 2, maxLocals := 19, code := code, exceptionTable := #[], attributes := #[] }
def k1m2 : Method := { name := "law", desc := "(IIIII)Z", sig := { parameters := [.int, .int, .int, .int, .int], returnType := some .boolean }, accessFlags := 9, code := some k1c2 }
/-- com/example/recordweave/recordweave/store/KeyIndexFileOfPinLaw -/
def k1 : Class := { plain "com/example/recordweave/recordweave/store/KeyIndexFileOfPinLaw" (some 0) with
  accessFlags := 49
  interfaces := #[]
  cf := some (fileOf pool1 19 #[] #[{ accessFlags := 1, nameIndex := 5, descriptorIndex := 6, attributes := #[] }, { accessFlags := 10, nameIndex := 22, descriptorIndex := 23, attributes := #[] }, { accessFlags := 9, nameIndex := 50, descriptorIndex := 51, attributes := #[] }] 49 2 #[] #[])
  fields := #[]
  methods := #[k1m0, k1m1, k1m2]
  instanceTypes := #[]
  staticTypes := #[]
  resolved := Array.replicate 54 none
  statics := none }

def pool2 : Array CpInfo := pool [(1, .class_ 2), (0, u "java/io/Serializable"), (0, .class_ 4), (0, u "java/lang/Object")] 2

/-- java/io/Serializable -/
def k2 : Class := { plain "java/io/Serializable" (some 0) with
  accessFlags := 1537
  interfaces := #[]
  cf := some (fileOf pool2 1 #[] #[] 1537 3 #[] #[])
  fields := #[]
  methods := #[]
  instanceTypes := #[]
  staticTypes := #[]
  resolved := Array.replicate 7 none
  statics := none }

def pool3 : Array CpInfo := pool [(1, .class_ 2), (0, u "java/lang/Comparable"), (0, .class_ 4), (0, u "java/lang/Object")] 7

/-- java/lang/Comparable -/
def k3 : Class := { plain "java/lang/Comparable" (some 0) with
  accessFlags := 1537
  interfaces := #[]
  cf := some (fileOf pool3 1 #[] #[] 1537 3 #[] #[])
  fields := #[]
  methods := #[]
  instanceTypes := #[]
  staticTypes := #[]
  resolved := Array.replicate 12 none
  statics := none }

def pool4 : Array CpInfo := pool [(2, .class_ 4), (1, u "java/lang/CharSequence"), (42, .class_ 48), (0, u "java/lang/CharSequence$1CodePointIterator"), (10, .class_ 60), (0, u "java/lang/CharSequence$1CharIterator"), (5, .class_ 67), (0, u "java/lang/Object")] 63

/-- java/lang/CharSequence -/
def k4 : Class := { plain "java/lang/CharSequence" (some 0) with
  accessFlags := 1537
  interfaces := #[]
  cf := some (fileOf pool4 2 #[.nestMembers #[47, 59]] #[] 1537 66 #[] #[])
  fields := #[]
  methods := #[]
  instanceTypes := #[]
  staticTypes := #[]
  resolved := Array.replicate 131 none
  statics := none }

def pool5 : Array CpInfo := pool [(1, .class_ 2), (0, u "java/lang/constant/Constable"), (0, .class_ 4), (0, u "java/lang/Object")] 6

/-- java/lang/constant/Constable -/
def k5 : Class := { plain "java/lang/constant/Constable" (some 0) with
  accessFlags := 1537
  interfaces := #[]
  cf := some (fileOf pool5 1 #[] #[] 1537 3 #[] #[])
  fields := #[]
  methods := #[]
  instanceTypes := #[]
  staticTypes := #[]
  resolved := Array.replicate 11 none
  statics := none }

def pool6 : Array CpInfo := pool [(1, .class_ 2), (0, u "java/lang/constant/ConstantDesc"), (0, .class_ 4), (0, u "java/lang/Object")] 32

/-- java/lang/constant/ConstantDesc -/
def k6 : Class := { plain "java/lang/constant/ConstantDesc" (some 0) with
  accessFlags := 1537
  interfaces := #[]
  cf := some (fileOf pool6 1 #[] #[] 1537 3 #[] #[])
  fields := #[]
  methods := #[]
  instanceTypes := #[]
  staticTypes := #[]
  resolved := Array.replicate 37 none
  statics := none }

def pool7 : Array CpInfo := pool [(1, .methodref 2 3), (0, .class_ 4), (0, .nameAndType 5 6), (0, u "java/lang/Object"), (0, u "<init>"), (0, u "()V"), (2, .fieldref 10 11), (0, .class_ 12), (0, .nameAndType 13 14), (0, u "java/lang/String"), (0, u "value"), (0, u "[B"), (0, .fieldref 10 16), (0, .nameAndType 17 18), (0, u "coder"), (0, u "B"), (2, u "hash"), (0, u "I"), (2, u "hashIsZero"), (0, u "Z"), (0, .methodref 10 28), (0, .nameAndType 5 29), (0, u "([CIILjava/lang/Void;)V"), (8, .fieldref 10 39), (0, .nameAndType 40 26), (0, u "COMPACT_STRINGS"), (1, .class_ 44), (1, u "java/lang/StringUTF16"), (0, u "compress"), (1, .methodref 42 48), (0, .nameAndType 49 50), (0, u "coderFromArrayLen"), (0, u "([BI)B"), (2, u "toBytes"), (1, .class_ 57), (1, u "java/util/Arrays"), (2, .methodref 42 61), (0, .nameAndType 62 63), (0, u "newBytesFor"), (0, u "(I)[B"), (22, .fieldref 87 88), (0, .class_ 89), (0, .nameAndType 90 91), (0, u "sun/nio/cs/UTF_8"), (0, u "INSTANCE"), (0, u "Lsun/nio/cs/UTF_8;"), (1, .class_ 95), (1, u "java/lang/StringCoding"), (6, .methodref 55 103), (0, .nameAndType 104 105), (0, u "copyOf"), (0, u "([BI)[B"), (1, .class_ 109), (1, u "java/lang/StringLatin1"), (18, .methodref 93 129), (0, .nameAndType 130 131), (0, u "hasNegatives"), (0, u "([BII)Z"), (45, .methodref 42 178), (0, .nameAndType 45 179), (0, u "([CII)[B"), (29, .methodref 10 210), (0, .nameAndType 5 211), (0, u "([BB)V"), (40, .methodref 10 253), (0, .nameAndType 254 255), (0, u "encodeUTF8"), (0, u "(B[BZ)[B"), (23, .methodref 280 281), (0, .class_ 14), (0, .nameAndType 282 283), (0, u "clone"), (0, u "()Ljava/lang/Object;"), (33, u "encode"), (17, .methodref 10 336), (0, .nameAndType 17 337), (0, u "()B"), (31, u "(C)Z"), (162, u "getBytes"), (2, .methodref 10 536), (0, .nameAndType 317 537), (0, u "(Ljava/nio/charset/Charset;B[B)[B"), (3, .methodref 107 542), (0, .nameAndType 543 544), (0, u "equals"), (0, u "([B[B)Z"), (28, u "(Ljava/lang/Object;)Z"), (1, .class_ 576), (0, u "java/lang/CharSequence"), (22, u "CASE_INSENSITIVE_ORDER"), (0, u "Ljava/util/Comparator;"), (181, u "valueOf"), (0, u "(C)Ljava/lang/String;"), (226, u "([C)V"), (4, .methodref 107 1016), (0, .nameAndType 1017 369), (0, u "canEncode"), (0, .methodref 107 1019), (0, .nameAndType 53 1020), (0, u "(C)[B"), (80, u "serialPersistentFields"), (0, u "[Ljava/io/ObjectStreamField;"), (0, .class_ 1104), (0, u "java/lang/String$CaseInsensitiveComparator"), (1, .class_ 1107), (0, u "java/io/Serializable"), (0, .class_ 1109), (0, u "java/lang/Comparable"), (0, .class_ 1111), (0, u "java/lang/constant/Constable"), (0, .class_ 1113), (0, u "java/lang/constant/ConstantDesc"), (2, u "serialVersionUID"), (0, u "J"), (3, u "REPL"), (0, u "C"), (2, u "LATIN1"), (1, u "UTF16"), (117, u "(Ljava/nio/charset/Charset;)[B")] 205

def k7m0 : Method := { name := "<init>", desc := "()V", sig := { parameters := [], returnType := none }, accessFlags := 1, code := none }
def k7c1 : Code := { maxStack := 5, maxLocals := 2, code := jdk_42_method_3_code, exceptionTable := #[], attributes := #[] }
def k7m1 : Method := { name := "<init>", desc := "([C)V", sig := { parameters := [(.array .char)], returnType := none }, accessFlags := 1, code := some k7c1 }
def k7c2 : Code := { maxStack := 4, maxLocals := 3, code := jdk_42_method_18_code, exceptionTable := #[], attributes := #[] }
def k7m2 : Method := { name := "encode", desc := "(Ljava/nio/charset/Charset;B[B)[B", sig := { parameters := [(.object "java/nio/charset/Charset"), .byte, (.array .byte)], returnType := some (.array .byte) }, accessFlags := 10, code := some k7c2 }
def k7c3 : Code := { maxStack := 5, maxLocals := 9, code := jdk_42_method_46_code, exceptionTable := #[], attributes := #[] }
def k7m3 : Method := { name := "encodeUTF8", desc := "(B[BZ)[B", sig := { parameters := [.byte, (.array .byte), .boolean], returnType := some (.array .byte) }, accessFlags := 10, code := some k7c3 }
def k7c4 : Code := { maxStack := 3, maxLocals := 2, code := jdk_42_method_64_code, exceptionTable := #[], attributes := #[] }
def k7m4 : Method := { name := "getBytes", desc := "(Ljava/nio/charset/Charset;)[B", sig := { parameters := [(.object "java/nio/charset/Charset")], returnType := some (.array .byte) }, accessFlags := 1, code := some k7c4 }
def k7c5 : Code := { maxStack := 2, maxLocals := 3, code := jdk_42_method_66_code, exceptionTable := #[], attributes := #[] }
def k7m5 : Method := { name := "equals", desc := "(Ljava/lang/Object;)Z", sig := { parameters := [(.object "java/lang/Object")], returnType := some .boolean }, accessFlags := 1, code := some k7c5 }
def k7c6 : Code := { maxStack := 4, maxLocals := 1, code := jdk_42_method_139_code, exceptionTable := #[], attributes := #[] }
def k7m6 : Method := { name := "valueOf", desc := "(C)Ljava/lang/String;", sig := { parameters := [.char], returnType := some (.object "java/lang/String") }, accessFlags := 9, code := some k7c6 }
def k7c7 : Code := { maxStack := 4, maxLocals := 6, code := jdk_42_method_149_code, exceptionTable := #[], attributes := #[] }
def k7m7 : Method := { name := "<init>", desc := "([CIILjava/lang/Void;)V", sig := { parameters := [(.array .char), .int, .int, (.object "java/lang/Void")], returnType := none }, accessFlags := 2, code := some k7c7 }
def k7c8 : Code := { maxStack := 2, maxLocals := 3, code := jdk_42_method_151_code, exceptionTable := #[], attributes := #[] }
def k7m8 : Method := { name := "<init>", desc := "([BB)V", sig := { parameters := [(.array .byte), .byte], returnType := none }, accessFlags := 0, code := some k7c8 }
def k7c9 : Code := { maxStack := 1, maxLocals := 1, code := jdk_42_method_152_code, exceptionTable := #[], attributes := #[] }
def k7m9 : Method := { name := "coder", desc := "()B", sig := { parameters := [], returnType := some .byte }, accessFlags := 0, code := some k7c9 }
/-- java/lang/String -/
def k7 : Class := { plain "java/lang/String" (some 0) with
  accessFlags := 49
  interfaces := #[2, 3, 4, 5, 6]
  cf := some (fileOf pool7 10 #[.nestMembers #[1103]] #[{ accessFlags := 1, nameIndex := 5, descriptorIndex := 6, attributes := #[] }, { accessFlags := 1, nameIndex := 5, descriptorIndex := 1010, attributes := #[] }, { accessFlags := 10, nameIndex := 317, descriptorIndex := 537, attributes := #[] }, { accessFlags := 10, nameIndex := 254, descriptorIndex := 255, attributes := #[] }, { accessFlags := 1, nameIndex := 532, descriptorIndex := 1245, attributes := #[] }, { accessFlags := 1, nameIndex := 543, descriptorIndex := 573, attributes := #[] }, { accessFlags := 9, nameIndex := 782, descriptorIndex := 783, attributes := #[] }, { accessFlags := 2, nameIndex := 5, descriptorIndex := 29, attributes := #[] }, { accessFlags := 0, nameIndex := 5, descriptorIndex := 211, attributes := #[] }, { accessFlags := 0, nameIndex := 17, descriptorIndex := 337, attributes := #[] }] 49 2 #[1106, 1108, 575, 1110, 1112] #[{ accessFlags := 18, nameIndex := 13, descriptorIndex := 14, attributes := #[] }, { accessFlags := 18, nameIndex := 17, descriptorIndex := 18, attributes := #[] }, { accessFlags := 2, nameIndex := 21, descriptorIndex := 22, attributes := #[] }, { accessFlags := 2, nameIndex := 25, descriptorIndex := 26, attributes := #[] }, { accessFlags := 26, nameIndex := 1116, descriptorIndex := 1117, attributes := #[] }, { accessFlags := 24, nameIndex := 40, descriptorIndex := 26, attributes := #[] }, { accessFlags := 26, nameIndex := 1101, descriptorIndex := 1102, attributes := #[] }, { accessFlags := 26, nameIndex := 1121, descriptorIndex := 1122, attributes := #[] }, { accessFlags := 25, nameIndex := 599, descriptorIndex := 600, attributes := #[] }, { accessFlags := 24, nameIndex := 1125, descriptorIndex := 18, attributes := #[] }, { accessFlags := 24, nameIndex := 1127, descriptorIndex := 18, attributes := #[] }])
  fields := #[{ name := "value", type := (.array .byte), accessFlags := 18, slot := 0, constantValue := 0 }, { name := "coder", type := .byte, accessFlags := 18, slot := 1, constantValue := 0 }, { name := "hash", type := .int, accessFlags := 2, slot := 2, constantValue := 0 }, { name := "hashIsZero", type := .boolean, accessFlags := 2, slot := 3, constantValue := 0 }, { name := "serialVersionUID", type := .long, accessFlags := 26, slot := 0, constantValue := 0 }, { name := "COMPACT_STRINGS", type := .boolean, accessFlags := 24, slot := 1, constantValue := 0 }, { name := "serialPersistentFields", type := (.array (.object "java/io/ObjectStreamField")), accessFlags := 26, slot := 2, constantValue := 0 }, { name := "REPL", type := .char, accessFlags := 26, slot := 3, constantValue := 0 }, { name := "CASE_INSENSITIVE_ORDER", type := (.object "java/util/Comparator"), accessFlags := 25, slot := 4, constantValue := 0 }, { name := "LATIN1", type := .byte, accessFlags := 24, slot := 5, constantValue := 0 }, { name := "UTF16", type := .byte, accessFlags := 24, slot := 6, constantValue := 0 }]
  methods := #[k7m0, k7m1, k7m2, k7m3, k7m4, k7m5, k7m6, k7m7, k7m8, k7m9]
  instanceTypes := #[(.array .byte), .byte, .int, .boolean]
  staticTypes := #[.long, .boolean, (.array (.object "java/io/ObjectStreamField")), .char, (.object "java/util/Comparator"), .byte, .byte]
  resolved := Array.replicate 1451 none
  statics := some 0 }

def pool8 : Array CpInfo := pool [(8, .class_ 10), (1, u "java/lang/Iterable"), (24, .class_ 36), (0, u "java/lang/Object")] 25

/-- java/lang/Iterable -/
def k8 : Class := { plain "java/lang/Iterable" (some 0) with
  accessFlags := 1537
  interfaces := #[]
  cf := some (fileOf pool8 8 #[] #[] 1537 35 #[] #[])
  fields := #[]
  methods := #[]
  instanceTypes := #[]
  staticTypes := #[]
  resolved := Array.replicate 62 none
  statics := none }

def pool9 : Array CpInfo := pool [(10, .class_ 12), (1, u "java/util/Collection"), (47, .class_ 61), (0, u "java/lang/Object"), (0, .class_ 63), (0, u "java/lang/Iterable")] 51

/-- java/util/Collection -/
def k9 : Class := { plain "java/util/Collection" (some 0) with
  accessFlags := 1537
  interfaces := #[8]
  cf := some (fileOf pool9 10 #[] #[] 1537 60 #[62] #[])
  fields := #[]
  methods := #[]
  instanceTypes := #[]
  staticTypes := #[]
  resolved := Array.replicate 115 none
  statics := none }

def pool10 : Array CpInfo := pool [(1, .methodref 2 3), (0, .class_ 4), (0, .nameAndType 5 6), (0, u "java/lang/Object"), (0, u "<init>"), (0, u "()V"), (1, .class_ 10), (1, u "java/util/AbstractCollection"), (66, .class_ 78), (0, u "java/util/Collection")] 81

def k10c0 : Code := { maxStack := 1, maxLocals := 1, code := jdk_22_method_1_code, exceptionTable := #[], attributes := #[] }
def k10m0 : Method := { name := "<init>", desc := "()V", sig := { parameters := [], returnType := none }, accessFlags := 4, code := some k10c0 }
/-- java/util/AbstractCollection -/
def k10 : Class := { plain "java/util/AbstractCollection" (some 0) with
  accessFlags := 1057
  interfaces := #[9]
  cf := some (fileOf pool10 8 #[] #[{ accessFlags := 4, nameIndex := 5, descriptorIndex := 6, attributes := #[] }] 1057 2 #[77] #[])
  fields := #[]
  methods := #[k10m0]
  instanceTypes := #[]
  staticTypes := #[]
  resolved := Array.replicate 160 none
  statics := none }

def pool11 : Array CpInfo := pool [(8, .class_ 10), (1, u "java/util/SequencedCollection"), (15, .class_ 27), (0, u "java/lang/Object"), (0, .class_ 29), (0, u "java/util/Collection")] 27

/-- java/util/SequencedCollection -/
def k11 : Class := { plain "java/util/SequencedCollection" (some 0) with
  accessFlags := 1537
  interfaces := #[9]
  cf := some (fileOf pool11 8 #[] #[] 1537 26 #[28] #[])
  fields := #[]
  methods := #[]
  instanceTypes := #[]
  staticTypes := #[]
  resolved := Array.replicate 57 none
  statics := none }

def pool12 : Array CpInfo := pool [(8, .class_ 10), (1, u "java/util/List"), (49, u "add"), (3, u "(Ljava/lang/Object;)Z"), (10, u "get"), (0, u "(I)Ljava/lang/Object;"), (2, u "size"), (0, u "()I"), (22, .class_ 104), (0, u "java/lang/Object"), (15, .class_ 121), (0, u "java/util/SequencedCollection"), (1, u "iterator"), (0, u "()Ljava/util/Iterator;")] 126

def k12m0 : Method := { name := "size", desc := "()I", sig := { parameters := [], returnType := some .int }, accessFlags := 1025, code := none }
def k12m1 : Method := { name := "iterator", desc := "()Ljava/util/Iterator;", sig := { parameters := [], returnType := some (.object "java/util/Iterator") }, accessFlags := 1025, code := none }
def k12m2 : Method := { name := "add", desc := "(Ljava/lang/Object;)Z", sig := { parameters := [(.object "java/lang/Object")], returnType := some .boolean }, accessFlags := 1025, code := none }
def k12m3 : Method := { name := "get", desc := "(I)Ljava/lang/Object;", sig := { parameters := [.int], returnType := some (.object "java/lang/Object") }, accessFlags := 1025, code := none }
/-- java/util/List -/
def k12 : Class := { plain "java/util/List" (some 0) with
  accessFlags := 1537
  interfaces := #[11]
  cf := some (fileOf pool12 8 #[] #[{ accessFlags := 1025, nameIndex := 79, descriptorIndex := 80, attributes := #[] }, { accessFlags := 1025, nameIndex := 123, descriptorIndex := 124, attributes := #[] }, { accessFlags := 1025, nameIndex := 60, descriptorIndex := 64, attributes := #[] }, { accessFlags := 1025, nameIndex := 75, descriptorIndex := 76, attributes := #[] }] 1537 103 #[120] #[])
  fields := #[]
  methods := #[k12m0, k12m1, k12m2, k12m3]
  instanceTypes := #[]
  staticTypes := #[]
  resolved := Array.replicate 251 none
  statics := none }

def pool13 : Array CpInfo := pool [(1, .methodref 2 3), (0, .class_ 4), (0, .nameAndType 5 6), (0, u "java/util/AbstractCollection"), (0, u "<init>"), (0, u "()V"), (0, .fieldref 8 9), (0, .class_ 10), (0, .nameAndType 11 12), (0, u "java/util/AbstractList"), (0, u "modCount"), (0, u "I"), (64, .class_ 78), (0, u "java/util/AbstractList$Itr"), (3, .class_ 83), (0, u "java/util/AbstractList$ListItr"), (9, .class_ 94), (0, u "java/util/AbstractList$RandomAccessSubList"), (3, .class_ 99), (0, u "java/util/AbstractList$SubList"), (33, .class_ 134), (0, u "java/util/List"), (73, .class_ 209), (0, u "java/util/AbstractList$SubList$1"), (0, .class_ 211), (0, u "java/util/AbstractList$RandomAccessSpliterator")] 6

def k13c0 : Code := { maxStack := 2, maxLocals := 1, code := jdk_39_method_1_code, exceptionTable := #[], attributes := #[] }
def k13m0 : Method := { name := "<init>", desc := "()V", sig := { parameters := [], returnType := none }, accessFlags := 4, code := some k13c0 }
/-- java/util/AbstractList -/
def k13 : Class := { plain "java/util/AbstractList" (some 10) with
  accessFlags := 1057
  interfaces := #[12]
  cf := some (fileOf pool13 8 #[.nestMembers #[93, 98, 208, 210, 82, 77]] #[{ accessFlags := 4, nameIndex := 5, descriptorIndex := 6, attributes := #[] }] 1057 2 #[133] #[{ accessFlags := 132, nameIndex := 11, descriptorIndex := 12, attributes := #[] }])
  fields := #[{ name := "modCount", type := .int, accessFlags := 132, slot := 0, constantValue := 0 }]
  methods := #[k13m0]
  instanceTypes := #[.int]
  staticTypes := #[]
  resolved := Array.replicate 218 none
  statics := none }

def pool14 : Array CpInfo := pool [(1, .class_ 2), (0, u "java/util/RandomAccess"), (0, .class_ 4), (0, u "java/lang/Object")] 2

/-- java/util/RandomAccess -/
def k14 : Class := { plain "java/util/RandomAccess" (some 0) with
  accessFlags := 1537
  interfaces := #[]
  cf := some (fileOf pool14 1 #[] #[] 1537 3 #[] #[])
  fields := #[]
  methods := #[]
  instanceTypes := #[]
  staticTypes := #[]
  resolved := Array.replicate 7 none
  statics := none }

def pool15 : Array CpInfo := pool [(1, .class_ 2), (0, u "java/lang/Cloneable"), (0, .class_ 4), (0, u "java/lang/Object")] 2

/-- java/lang/Cloneable -/
def k15 : Class := { plain "java/lang/Cloneable" (some 0) with
  accessFlags := 1537
  interfaces := #[]
  cf := some (fileOf pool15 1 #[] #[] 1537 3 #[] #[])
  fields := #[]
  methods := #[]
  instanceTypes := #[]
  staticTypes := #[]
  resolved := Array.replicate 7 none
  statics := none }

def pool16 : Array CpInfo := pool [(1, .methodref 2 3), (0, .class_ 4), (0, .nameAndType 5 6), (0, u "java/util/AbstractList"), (0, u "<init>"), (0, u "()V"), (0, .class_ 8), (0, u "java/lang/Object"), (0, .fieldref 10 11), (0, .class_ 12), (0, .nameAndType 13 14), (0, u "java/util/ArrayList"), (0, u "elementData"), (0, u "[Ljava/lang/Object;"), (2, u "EMPTY_ELEMENTDATA"), (21, .fieldref 10 40), (0, .nameAndType 41 14), (0, u "DEFAULTCAPACITY_EMPTY_ELEMENTDATA"), (5, u "()[Ljava/lang/Object;"), (0, .fieldref 10 49), (0, .nameAndType 50 51), (0, u "size"), (0, u "I"), (11, .fieldref 10 64), (0, .nameAndType 65 51), (0, u "modCount"), (3, .methodref 10 70), (0, .nameAndType 71 72), (0, u "grow"), (0, u "(I)[Ljava/lang/Object;"), (6, .methodref 80 81), (0, .class_ 82), (0, .nameAndType 83 84), (0, u "java/lang/Math"), (0, u "max"), (0, u "(II)I"), (11, u "(Ljava/lang/Object;)Z"), (21, .methodref 119 120), (0, .class_ 121), (0, .nameAndType 122 84), (0, u "java/util/Objects"), (0, u "checkIndex"), (0, .methodref 10 124), (0, .nameAndType 13 125), (0, u "(I)Ljava/lang/Object;"), (3, .methodref 10 130), (0, .nameAndType 71 47), (0, .methodref 10 132), (0, .nameAndType 133 134), (0, u "add"), (0, u "(Ljava/lang/Object;[Ljava/lang/Object;I)V"), (3, u "(I)V"), (9, .class_ 149), (0, u "java/util/List"), (16, u "iterator"), (0, u "()Ljava/util/Iterator;"), (18, u "()I"), (75, .class_ 263), (0, u "java/util/ArrayList$ListItr"), (3, .class_ 268), (0, u "java/util/ArrayList$Itr"), (0, .methodref 267 270), (0, .nameAndType 5 271), (0, u "(Ljava/util/ArrayList;)V"), (4, .class_ 277), (0, u "java/util/ArrayList$SubList"), (12, .class_ 291), (0, u "java/util/ArrayList$ArrayListSpliterator"), (37, .class_ 330), (0, u "java/util/RandomAccess"), (0, .class_ 332), (0, u "java/lang/Cloneable"), (0, .class_ 334), (0, u "java/io/Serializable"), (0, u "serialVersionUID"), (0, u "J"), (3, u "DEFAULT_CAPACITY"), (40, u "get"), (118, .class_ 501), (0, u "java/util/ArrayList$SubList$2"), (0, .class_ 503), (0, u "java/util/ArrayList$SubList$1")] 5

def k16c0 : Code := { maxStack := 4, maxLocals := 2, code := jdk_38_method_1_code, exceptionTable := #[], attributes := #[] }
def k16m0 : Method := { name := "<init>", desc := "(I)V", sig := { parameters := [.int], returnType := none }, accessFlags := 1, code := some k16c0 }
def k16c1 : Code := { maxStack := 2, maxLocals := 1, code := jdk_38_method_2_code, exceptionTable := #[], attributes := #[] }
def k16m1 : Method := { name := "<init>", desc := "()V", sig := { parameters := [], returnType := none }, accessFlags := 1, code := some k16c1 }
def k16c2 : Code := { maxStack := 4, maxLocals := 4, code := jdk_38_method_6_code, exceptionTable := #[], attributes := #[] }
def k16m2 : Method := { name := "grow", desc := "(I)[Ljava/lang/Object;", sig := { parameters := [.int], returnType := some (.array (.object "java/lang/Object")) }, accessFlags := 2, code := some k16c2 }
def k16c3 : Code := { maxStack := 3, maxLocals := 1, code := jdk_38_method_7_code, exceptionTable := #[], attributes := #[] }
def k16m3 : Method := { name := "grow", desc := "()[Ljava/lang/Object;", sig := { parameters := [], returnType := some (.array (.object "java/lang/Object")) }, accessFlags := 2, code := some k16c3 }
def k16c4 : Code := { maxStack := 1, maxLocals := 1, code := jdk_38_method_8_code, exceptionTable := #[], attributes := #[] }
def k16m4 : Method := { name := "size", desc := "()I", sig := { parameters := [], returnType := some .int }, accessFlags := 1, code := some k16c4 }
def k16c5 : Code := { maxStack := 2, maxLocals := 2, code := jdk_38_method_18_code, exceptionTable := #[], attributes := #[] }
def k16m5 : Method := { name := "elementData", desc := "(I)Ljava/lang/Object;", sig := { parameters := [.int], returnType := some (.object "java/lang/Object") }, accessFlags := 0, code := some k16c5 }
def k16c6 : Code := { maxStack := 2, maxLocals := 2, code := jdk_38_method_20_code, exceptionTable := #[], attributes := #[] }
def k16m6 : Method := { name := "get", desc := "(I)Ljava/lang/Object;", sig := { parameters := [.int], returnType := some (.object "java/lang/Object") }, accessFlags := 1, code := some k16c6 }
def k16c7 : Code := { maxStack := 3, maxLocals := 4, code := jdk_38_method_24_code, exceptionTable := #[], attributes := #[] }
def k16m7 : Method := { name := "add", desc := "(Ljava/lang/Object;[Ljava/lang/Object;I)V", sig := { parameters := [(.object "java/lang/Object"), (.array (.object "java/lang/Object")), .int], returnType := none }, accessFlags := 2, code := some k16c7 }
def k16c8 : Code := { maxStack := 4, maxLocals := 2, code := jdk_38_method_25_code, exceptionTable := #[], attributes := #[] }
def k16m8 : Method := { name := "add", desc := "(Ljava/lang/Object;)Z", sig := { parameters := [(.object "java/lang/Object")], returnType := some .boolean }, accessFlags := 1, code := some k16c8 }
def k16c9 : Code := { maxStack := 3, maxLocals := 1, code := jdk_38_method_55_code, exceptionTable := #[], attributes := #[] }
def k16m9 : Method := { name := "iterator", desc := "()Ljava/util/Iterator;", sig := { parameters := [], returnType := some (.object "java/util/Iterator") }, accessFlags := 1, code := some k16c9 }
/-- java/util/ArrayList -/
def k16 : Class := { plain "java/util/ArrayList" (some 13) with
  accessFlags := 33
  interfaces := #[12, 14, 15, 2]
  cf := some (fileOf pool16 10 #[.nestMembers #[290, 276, 500, 502, 262, 267]] #[{ accessFlags := 1, nameIndex := 5, descriptorIndex := 138, attributes := #[] }, { accessFlags := 1, nameIndex := 5, descriptorIndex := 6, attributes := #[] }, { accessFlags := 2, nameIndex := 71, descriptorIndex := 72, attributes := #[] }, { accessFlags := 2, nameIndex := 71, descriptorIndex := 47, attributes := #[] }, { accessFlags := 1, nameIndex := 50, descriptorIndex := 186, attributes := #[] }, { accessFlags := 0, nameIndex := 13, descriptorIndex := 125, attributes := #[] }, { accessFlags := 1, nameIndex := 381, descriptorIndex := 125, attributes := #[] }, { accessFlags := 2, nameIndex := 133, descriptorIndex := 134, attributes := #[] }, { accessFlags := 1, nameIndex := 133, descriptorIndex := 96, attributes := #[] }, { accessFlags := 1, nameIndex := 166, descriptorIndex := 167, attributes := #[] }] 33 2 #[148, 329, 331, 333] #[{ accessFlags := 26, nameIndex := 335, descriptorIndex := 336, attributes := #[] }, { accessFlags := 26, nameIndex := 340, descriptorIndex := 51, attributes := #[] }, { accessFlags := 26, nameIndex := 17, descriptorIndex := 14, attributes := #[] }, { accessFlags := 26, nameIndex := 41, descriptorIndex := 14, attributes := #[] }, { accessFlags := 128, nameIndex := 13, descriptorIndex := 14, attributes := #[] }, { accessFlags := 2, nameIndex := 50, descriptorIndex := 51, attributes := #[] }])
  fields := #[{ name := "serialVersionUID", type := .long, accessFlags := 26, slot := 0, constantValue := 0 }, { name := "DEFAULT_CAPACITY", type := .int, accessFlags := 26, slot := 1, constantValue := 0 }, { name := "EMPTY_ELEMENTDATA", type := (.array (.object "java/lang/Object")), accessFlags := 26, slot := 2, constantValue := 0 }, { name := "DEFAULTCAPACITY_EMPTY_ELEMENTDATA", type := (.array (.object "java/lang/Object")), accessFlags := 26, slot := 3, constantValue := 0 }, { name := "elementData", type := (.array (.object "java/lang/Object")), accessFlags := 128, slot := 1, constantValue := 0 }, { name := "size", type := .int, accessFlags := 2, slot := 2, constantValue := 0 }]
  methods := #[k16m0, k16m1, k16m2, k16m3, k16m4, k16m5, k16m6, k16m7, k16m8, k16m9]
  instanceTypes := #[.int, (.array (.object "java/lang/Object")), .int]
  staticTypes := #[.long, .int, (.array (.object "java/lang/Object")), (.array (.object "java/lang/Object"))]
  resolved := Array.replicate 509 none
  statics := some 1 }

def pool17 : Array CpInfo := pool [(1, .class_ 2), (0, u "java/lang/Math"), (1, .class_ 6), (1, u "java/lang/Object"), (0, u "<init>"), (0, u "()V"), (89, .class_ 100), (1, u "java/lang/Math$RandomNumberGeneratorHolder"), (71, u "negativeZeroFloatBits"), (0, u "J"), (2, u "negativeZeroDoubleBits"), (21, u "max"), (2, u "min"), (43, u "$assertionsDisabled"), (0, u "Z"), (88, u "(II)I"), (2, u "twoToTheDoubleScaleDown"), (0, u "D"), (4, u "twoToTheDoubleScaleUp"), (9, u "E"), (3, u "PI"), (2, u "TAU"), (2, u "DEGREES_TO_RADIANS"), (0, u "RADIANS_TO_DEGREES")] 94

def k17m0 : Method := { name := "<init>", desc := "()V", sig := { parameters := [], returnType := none }, accessFlags := 2, code := none }
def k17c1 : Code := { maxStack := 2, maxLocals := 2, code := jdk_29_method_65_code, exceptionTable := #[], attributes := #[] }
def k17m1 : Method := { name := "max", desc := "(II)I", sig := { parameters := [.int, .int], returnType := some .int }, accessFlags := 9, code := some k17c1 }
def k17c2 : Code := { maxStack := 2, maxLocals := 2, code := jdk_29_method_69_code, exceptionTable := #[], attributes := #[] }
def k17m2 : Method := { name := "min", desc := "(II)I", sig := { parameters := [.int, .int], returnType := some .int }, accessFlags := 9, code := some k17c2 }
/-- java/lang/Math -/
def k17 : Class := { plain "java/lang/Math" (some 0) with
  accessFlags := 49
  interfaces := #[]
  cf := some (fileOf pool17 1 #[.nestMembers #[98]] #[{ accessFlags := 2, nameIndex := 7, descriptorIndex := 8, attributes := #[] }, { accessFlags := 9, nameIndex := 198, descriptorIndex := 335, attributes := #[] }, { accessFlags := 9, nameIndex := 201, descriptorIndex := 335, attributes := #[] }] 49 4 #[] #[{ accessFlags := 25, nameIndex := 354, descriptorIndex := 339, attributes := #[] }, { accessFlags := 25, nameIndex := 358, descriptorIndex := 339, attributes := #[] }, { accessFlags := 25, nameIndex := 361, descriptorIndex := 339, attributes := #[] }, { accessFlags := 26, nameIndex := 364, descriptorIndex := 339, attributes := #[] }, { accessFlags := 26, nameIndex := 365, descriptorIndex := 339, attributes := #[] }, { accessFlags := 26, nameIndex := 172, descriptorIndex := 173, attributes := #[] }, { accessFlags := 26, nameIndex := 176, descriptorIndex := 173, attributes := #[] }, { accessFlags := 8, nameIndex := 344, descriptorIndex := 339, attributes := #[] }, { accessFlags := 8, nameIndex := 338, descriptorIndex := 339, attributes := #[] }, { accessFlags := 4120, nameIndex := 245, descriptorIndex := 246, attributes := #[] }])
  fields := #[{ name := "E", type := .double, accessFlags := 25, slot := 0, constantValue := 0 }, { name := "PI", type := .double, accessFlags := 25, slot := 1, constantValue := 0 }, { name := "TAU", type := .double, accessFlags := 25, slot := 2, constantValue := 0 }, { name := "DEGREES_TO_RADIANS", type := .double, accessFlags := 26, slot := 3, constantValue := 0 }, { name := "RADIANS_TO_DEGREES", type := .double, accessFlags := 26, slot := 4, constantValue := 0 }, { name := "negativeZeroFloatBits", type := .long, accessFlags := 26, slot := 5, constantValue := 0 }, { name := "negativeZeroDoubleBits", type := .long, accessFlags := 26, slot := 6, constantValue := 0 }, { name := "twoToTheDoubleScaleUp", type := .double, accessFlags := 8, slot := 7, constantValue := 0 }, { name := "twoToTheDoubleScaleDown", type := .double, accessFlags := 8, slot := 8, constantValue := 0 }, { name := "$assertionsDisabled", type := .boolean, accessFlags := 4120, slot := 9, constantValue := 0 }]
  methods := #[k17m0, k17m1, k17m2]
  instanceTypes := #[]
  staticTypes := #[.double, .double, .double, .double, .double, .long, .long, .double, .double, .boolean]
  resolved := Array.replicate 460 none
  statics := none }

def pool18 : Array CpInfo := pool [(1, .methodref 2 3), (0, .class_ 4), (0, .nameAndType 5 6), (0, u "java/lang/Object"), (0, u "<init>"), (0, u "()V"), (0, .class_ 8), (0, u "java/util/ArrayList"), (0, .methodref 7 3), (0, .fieldref 11 12), (0, .class_ 13), (0, .nameAndType 14 15), (0, u "com/example/recordweave/recordweave/store/KeyIndex"), (0, u "keysOfFile"), (0, u "Ljava/util/List;"), (0, .fieldref 11 17), (0, .nameAndType 18 19), (0, u "files"), (0, u "[I"), (0, .fieldref 11 21), (0, .nameAndType 22 19), (0, u "starts"), (0, .fieldref 11 24), (0, .nameAndType 25 19), (0, u "ends"), (0, .fieldref 11 27), (0, .nameAndType 28 19), (0, u "table"), (0, .interfaceMethodref 30 31), (0, .class_ 32), (0, .nameAndType 33 34), (0, u "java/util/List"), (0, u "size"), (0, u "()I"), (0, .methodref 7 36), (0, .nameAndType 5 37), (0, u "(I)V"), (0, .interfaceMethodref 30 39), (0, .nameAndType 40 41), (0, u "iterator"), (0, u "()Ljava/util/Iterator;"), (0, .interfaceMethodref 43 44), (0, .class_ 45), (0, .nameAndType 46 47), (0, u "java/util/Iterator"), (0, u "hasNext"), (0, u "()Z"), (0, .interfaceMethodref 43 49), (0, .nameAndType 50 51), (0, u "next"), (0, u "()Ljava/lang/Object;"), (0, .class_ 53), (0, u "java/lang/String"), (0, .fieldref 55 56), (0, .class_ 57), (0, .nameAndType 58 59), (0, u "java/nio/charset/StandardCharsets"), (0, u "UTF_8"), (0, u "Ljava/nio/charset/Charset;"), (0, .methodref 52 61), (0, .nameAndType 62 63), (0, u "getBytes"), (0, u "(Ljava/nio/charset/Charset;)[B"), (0, .interfaceMethodref 30 65), (0, .nameAndType 66 67), (0, u "add"), (0, u "(Ljava/lang/Object;)Z"), (0, .interfaceMethodref 30 69), (0, .nameAndType 70 71), (0, u "get"), (0, u "(I)Ljava/lang/Object;"), (0, .class_ 73), (0, u "[B"), (0, .methodref 75 76), (0, .class_ 77), (0, .nameAndType 78 79), (0, u "java/lang/System"), (0, u "arraycopy"), (0, u "(Ljava/lang/Object;ILjava/lang/Object;II)V"), (0, .methodref 11 81), (0, .nameAndType 82 83), (0, u "find"), (0, u "([BII)I"), (0, .methodref 11 85), (0, .nameAndType 86 87), (0, u "hold"), (0, u "(III)V"), (0, .methodref 11 89), (0, .nameAndType 90 83), (0, u "hash"), (0, .methodref 92 93), (0, .class_ 94), (0, .nameAndType 95 96), (0, u "java/util/Arrays"), (0, u "equals"), (0, u "([BII[BII)Z"), (0, .fieldref 11 98), (0, .nameAndType 33 99), (0, u "I"), (4, .methodref 11 105), (0, .nameAndType 106 37), (0, u "place"), (0, .integer 2246822507), (0, .integer 3266489909), (4, u "(Ljava/util/List;)I"), (2, u "fileOf"), (0, u "(Ljava/lang/String;)I")] 2

def k18c0 : Code := { maxStack := 3, maxLocals := 1, code := prog_1_method_1_code, exceptionTable := #[], attributes := #[] }
def k18m0 : Method := { name := "<init>", desc := "()V", sig := { parameters := [], returnType := none }, accessFlags := 0, code := some k18c0 }
def k18c1 : Code := { maxStack := 5, maxLocals := 10, code := prog_1_method_2_code, exceptionTable := #[], attributes := #[] }
def k18m1 : Method := { name := "add", desc := "(Ljava/util/List;)I", sig := { parameters := [(.object "java/util/List")], returnType := some .int }, accessFlags := 0, code := some k18c1 }
def k18c2 : Code := { maxStack := 4, maxLocals := 4, code := prog_1_method_3_code, exceptionTable := #[], attributes := #[] }
def k18m2 : Method := { name := "fileOf", desc := "(Ljava/lang/String;)I", sig := { parameters := [(.object "java/lang/String")], returnType := some .int }, accessFlags := 0, code := some k18c2 }
def k18c3 : Code := { maxStack := 6, maxLocals := 8, code := prog_1_method_4_code, exceptionTable := #[], attributes := #[] }
def k18m3 : Method := { name := "find", desc := "([BII)I", sig := { parameters := [(.array .byte), .int, .int], returnType := some .int }, accessFlags := 2, code := some k18c3 }
def k18c4 : Code := { maxStack := 4, maxLocals := 5, code := prog_1_method_5_code, exceptionTable := #[], attributes := #[] }
def k18m4 : Method := { name := "hold", desc := "(III)V", sig := { parameters := [.int, .int, .int], returnType := none }, accessFlags := 2, code := some k18c4 }
def k18c5 : Code := { maxStack := 4, maxLocals := 4, code := prog_1_method_6_code, exceptionTable := #[], attributes := #[] }
def k18m5 : Method := { name := "place", desc := "(I)V", sig := { parameters := [.int], returnType := none }, accessFlags := 2, code := some k18c5 }
def k18c6 : Code := { maxStack := 3, maxLocals := 5, code := prog_1_method_7_code, exceptionTable := #[], attributes := #[] }
def k18m6 : Method := { name := "hash", desc := "([BII)I", sig := { parameters := [(.array .byte), .int, .int], returnType := some .int }, accessFlags := 10, code := some k18c6 }
/-- com/example/recordweave/recordweave/store/KeyIndex -/
def k18 : Class := { plain "com/example/recordweave/recordweave/store/KeyIndex" (some 0) with
  accessFlags := 48
  interfaces := #[]
  cf := some (fileOf pool18 11 #[] #[{ accessFlags := 0, nameIndex := 5, descriptorIndex := 6, attributes := #[] }, { accessFlags := 0, nameIndex := 66, descriptorIndex := 113, attributes := #[] }, { accessFlags := 0, nameIndex := 116, descriptorIndex := 117, attributes := #[] }, { accessFlags := 2, nameIndex := 82, descriptorIndex := 83, attributes := #[] }, { accessFlags := 2, nameIndex := 86, descriptorIndex := 87, attributes := #[] }, { accessFlags := 2, nameIndex := 106, descriptorIndex := 37, attributes := #[] }, { accessFlags := 10, nameIndex := 90, descriptorIndex := 83, attributes := #[] }] 48 2 #[] #[{ accessFlags := 18, nameIndex := 14, descriptorIndex := 15, attributes := #[] }, { accessFlags := 2, nameIndex := 18, descriptorIndex := 19, attributes := #[] }, { accessFlags := 2, nameIndex := 22, descriptorIndex := 19, attributes := #[] }, { accessFlags := 2, nameIndex := 25, descriptorIndex := 19, attributes := #[] }, { accessFlags := 2, nameIndex := 33, descriptorIndex := 99, attributes := #[] }, { accessFlags := 2, nameIndex := 28, descriptorIndex := 19, attributes := #[] }])
  fields := #[{ name := "keysOfFile", type := (.object "java/util/List"), accessFlags := 18, slot := 0, constantValue := 0 }, { name := "files", type := (.array .int), accessFlags := 2, slot := 1, constantValue := 0 }, { name := "starts", type := (.array .int), accessFlags := 2, slot := 2, constantValue := 0 }, { name := "ends", type := (.array .int), accessFlags := 2, slot := 3, constantValue := 0 }, { name := "size", type := .int, accessFlags := 2, slot := 4, constantValue := 0 }, { name := "table", type := (.array .int), accessFlags := 2, slot := 5, constantValue := 0 }]
  methods := #[k18m0, k18m1, k18m2, k18m3, k18m4, k18m5, k18m6]
  instanceTypes := #[(.object "java/util/List"), (.array .int), (.array .int), (.array .int), .int, (.array .int)]
  staticTypes := #[]
  resolved := Array.replicate 120 none
  statics := none }

def pool19 : Array CpInfo := pool [(2, .class_ 4), (1, u "java/lang/Object"), (0, u "<init>"), (0, u "()V"), (14, .class_ 23), (1, u "java/nio/charset/StandardCharsets"), (0, u "US_ASCII"), (0, u "Ljava/nio/charset/Charset;"), (7, u "ISO_8859_1"), (7, u "UTF_8"), (5, u "UTF_16BE"), (5, u "UTF_16LE"), (5, u "UTF_16")] 8

def k19m0 : Method := { name := "<init>", desc := "()V", sig := { parameters := [], returnType := none }, accessFlags := 2, code := none }
/-- java/nio/charset/StandardCharsets -/
def k19 : Class := { plain "java/nio/charset/StandardCharsets" (some 0) with
  accessFlags := 49
  interfaces := #[]
  cf := some (fileOf pool19 21 #[] #[{ accessFlags := 2, nameIndex := 5, descriptorIndex := 6, attributes := #[] }] 49 2 #[] #[{ accessFlags := 25, nameIndex := 24, descriptorIndex := 25, attributes := #[] }, { accessFlags := 25, nameIndex := 33, descriptorIndex := 25, attributes := #[] }, { accessFlags := 25, nameIndex := 41, descriptorIndex := 25, attributes := #[] }, { accessFlags := 25, nameIndex := 47, descriptorIndex := 25, attributes := #[] }, { accessFlags := 25, nameIndex := 53, descriptorIndex := 25, attributes := #[] }, { accessFlags := 25, nameIndex := 59, descriptorIndex := 25, attributes := #[] }])
  fields := #[{ name := "US_ASCII", type := (.object "java/nio/charset/Charset"), accessFlags := 25, slot := 0, constantValue := 0 }, { name := "ISO_8859_1", type := (.object "java/nio/charset/Charset"), accessFlags := 25, slot := 1, constantValue := 0 }, { name := "UTF_8", type := (.object "java/nio/charset/Charset"), accessFlags := 25, slot := 2, constantValue := 0 }, { name := "UTF_16BE", type := (.object "java/nio/charset/Charset"), accessFlags := 25, slot := 3, constantValue := 0 }, { name := "UTF_16LE", type := (.object "java/nio/charset/Charset"), accessFlags := 25, slot := 4, constantValue := 0 }, { name := "UTF_16", type := (.object "java/nio/charset/Charset"), accessFlags := 25, slot := 5, constantValue := 0 }]
  methods := #[k19m0]
  instanceTypes := #[]
  staticTypes := #[(.object "java/nio/charset/Charset"), (.object "java/nio/charset/Charset"), (.object "java/nio/charset/Charset"), (.object "java/nio/charset/Charset"), (.object "java/nio/charset/Charset"), (.object "java/nio/charset/Charset")]
  resolved := Array.replicate 68 none
  statics := some 2 }

def pool20 : Array CpInfo := pool [(18, .class_ 20), (1, u "java/nio/charset/Charset"), (0, u "cache1"), (0, u "[Ljava/lang/Object;"), (2, u "cache2"), (0, .class_ 27), (0, u "java/lang/Object"), (0, .class_ 29), (0, u "java/nio/charset/Charset$1"), (4, .class_ 36), (1, u "java/nio/charset/Charset$ThreadTrackHolder"), (21, .class_ 59), (0, u "java/nio/charset/Charset$2"), (11, .class_ 73), (1, u "java/nio/charset/Charset$ExtendedProviderHolder"), (22, u "standardProvider"), (0, u "Ljava/nio/charset/spi/CharsetProvider;"), (29, u "name"), (7, .class_ 136), (0, u "java/nio/charset/Charset$3"), (5, u "defaultCharset"), (0, u "Ljava/nio/charset/Charset;"), (14, u "zeroAliases"), (0, u "[Ljava/lang/String;"), (29, u "Ljava/lang/String;"), (2, u "aliases"), (2, u "aliasSet"), (0, u "Ljava/util/Set;"), (82, .class_ 280), (0, u "java/lang/Comparable"), (84, .class_ 366), (0, u "java/nio/charset/Charset$ExtendedProviderHolder$1")] 3

/-- java/nio/charset/Charset -/
def k20 : Class := { plain "java/nio/charset/Charset" (some 0) with
  accessFlags := 1057
  interfaces := #[3]
  cf := some (fileOf pool20 18 #[.nestMembers #[71, 365, 34, 135, 58, 28]] #[] 1057 26 #[279] #[{ accessFlags := 26, nameIndex := 96, descriptorIndex := 97, attributes := #[] }, { accessFlags := 26, nameIndex := 158, descriptorIndex := 159, attributes := #[] }, { accessFlags := 74, nameIndex := 21, descriptorIndex := 22, attributes := #[] }, { accessFlags := 74, nameIndex := 25, descriptorIndex := 22, attributes := #[] }, { accessFlags := 10, nameIndex := 142, descriptorIndex := 143, attributes := #[] }, { accessFlags := 18, nameIndex := 127, descriptorIndex := 189, attributes := #[] }, { accessFlags := 18, nameIndex := 192, descriptorIndex := 159, attributes := #[] }, { accessFlags := 2, nameIndex := 195, descriptorIndex := 196, attributes := #[] }])
  fields := #[{ name := "standardProvider", type := (.object "java/nio/charset/spi/CharsetProvider"), accessFlags := 26, slot := 0, constantValue := 0 }, { name := "zeroAliases", type := (.array (.object "java/lang/String")), accessFlags := 26, slot := 1, constantValue := 0 }, { name := "cache1", type := (.array (.object "java/lang/Object")), accessFlags := 74, slot := 2, constantValue := 0 }, { name := "cache2", type := (.array (.object "java/lang/Object")), accessFlags := 74, slot := 3, constantValue := 0 }, { name := "defaultCharset", type := (.object "java/nio/charset/Charset"), accessFlags := 10, slot := 4, constantValue := 0 }, { name := "name", type := (.object "java/lang/String"), accessFlags := 18, slot := 0, constantValue := 0 }, { name := "aliases", type := (.array (.object "java/lang/String")), accessFlags := 18, slot := 1, constantValue := 0 }, { name := "aliasSet", type := (.object "java/util/Set"), accessFlags := 2, slot := 2, constantValue := 0 }]
  methods := #[]
  instanceTypes := #[(.object "java/lang/String"), (.array (.object "java/lang/String")), (.object "java/util/Set")]
  staticTypes := #[(.object "java/nio/charset/spi/CharsetProvider"), (.array (.object "java/lang/String")), (.array (.object "java/lang/Object")), (.array (.object "java/lang/Object")), (.object "java/nio/charset/Charset")]
  resolved := Array.replicate 370 none
  statics := none }

def pool21 : Array CpInfo := pool [(1, .class_ 2), (0, u "sun/nio/cs/HistoricallyNamedCharset"), (0, .class_ 4), (0, u "java/lang/Object")] 4

/-- sun/nio/cs/HistoricallyNamedCharset -/
def k21 : Class := { plain "sun/nio/cs/HistoricallyNamedCharset" (some 0) with
  accessFlags := 1537
  interfaces := #[]
  cf := some (fileOf pool21 1 #[] #[] 1537 3 #[] #[])
  fields := #[]
  methods := #[]
  instanceTypes := #[]
  staticTypes := #[]
  resolved := Array.replicate 9 none
  statics := none }

def pool22 : Array CpInfo := pool [(2, .class_ 4), (1, u "java/nio/charset/Charset"), (130, .class_ 136), (0, u "sun/nio/cs/Unicode"), (0, .class_ 138), (0, u "sun/nio/cs/HistoricallyNamedCharset")] 15

/-- sun/nio/cs/Unicode -/
def k22 : Class := { plain "sun/nio/cs/Unicode" (some 20) with
  accessFlags := 1056
  interfaces := #[21]
  cf := some (fileOf pool22 135 #[] #[] 1056 2 #[137] #[])
  fields := #[]
  methods := #[]
  instanceTypes := #[(.object "java/lang/String"), (.array (.object "java/lang/String")), (.object "java/util/Set")]
  staticTypes := #[]
  resolved := Array.replicate 154 none
  statics := none }

def pool23 : Array CpInfo := pool [(10, .class_ 12), (1, u "sun/nio/cs/Unicode"), (0, u "<init>"), (3, .class_ 18), (0, u "sun/nio/cs/UTF_8$Decoder"), (3, .class_ 23), (0, u "sun/nio/cs/UTF_8$Encoder"), (15, .class_ 40), (0, u "sun/nio/cs/UTF_8"), (2, u "()V"), (2, u "INSTANCE"), (0, u "Lsun/nio/cs/UTF_8;"), (8, u "JLA"), (0, u "Ljdk/internal/access/JavaLangAccess;")] 26

def k23m0 : Method := { name := "<init>", desc := "()V", sig := { parameters := [], returnType := none }, accessFlags := 1, code := none }
/-- sun/nio/cs/UTF_8 -/
def k23 : Class := { plain "sun/nio/cs/UTF_8" (some 22) with
  accessFlags := 49
  interfaces := #[]
  cf := some (fileOf pool23 39 #[.nestMembers #[22, 17]] #[{ accessFlags := 1, nameIndex := 13, descriptorIndex := 43, attributes := #[] }] 49 10 #[] #[{ accessFlags := 25, nameIndex := 46, descriptorIndex := 47, attributes := #[] }, { accessFlags := 26, nameIndex := 56, descriptorIndex := 57, attributes := #[] }])
  fields := #[{ name := "INSTANCE", type := (.object "sun/nio/cs/UTF_8"), accessFlags := 25, slot := 0, constantValue := 0 }, { name := "JLA", type := (.object "jdk/internal/access/JavaLangAccess"), accessFlags := 26, slot := 1, constantValue := 0 }]
  methods := #[k23m0]
  instanceTypes := #[(.object "java/lang/String"), (.array (.object "java/lang/String")), (.object "java/util/Set")]
  staticTypes := #[(.object "sun/nio/cs/UTF_8"), (.object "jdk/internal/access/JavaLangAccess")]
  resolved := Array.replicate 84 none
  statics := some 3 }

def pool24 : Array CpInfo := pool [(2, .class_ 4), (1, u "java/lang/Object"), (0, u "<init>"), (0, u "()V"), (0, .methodref 8 9), (0, .class_ 10), (0, .nameAndType 11 12), (0, u "java/lang/StringCoding"), (0, u "countPositives"), (0, u "([BII)I"), (11, u "hasNegatives"), (0, u "([BII)Z")] 23

def k24m0 : Method := { name := "<init>", desc := "()V", sig := { parameters := [], returnType := none }, accessFlags := 2, code := none }
def k24c1 : Code := { maxStack := 3, maxLocals := 3, code := jdk_123_method_2_code, exceptionTable := #[], attributes := #[] }
def k24m1 : Method := { name := "hasNegatives", desc := "([BII)Z", sig := { parameters := [(.array .byte), .int, .int], returnType := some .boolean }, accessFlags := 9, code := some k24c1 }
def k24c2 : Code := { maxStack := 2, maxLocals := 5, code := jdk_123_method_3_code, exceptionTable := #[], attributes := #[] }
def k24m2 : Method := { name := "countPositives", desc := "([BII)I", sig := { parameters := [(.array .byte), .int, .int], returnType := some .int }, accessFlags := 9, code := some k24c2 }
/-- java/lang/StringCoding -/
def k24 : Class := { plain "java/lang/StringCoding" (some 0) with
  accessFlags := 32
  interfaces := #[]
  cf := some (fileOf pool24 8 #[] #[{ accessFlags := 2, nameIndex := 5, descriptorIndex := 6, attributes := #[] }, { accessFlags := 9, nameIndex := 24, descriptorIndex := 25, attributes := #[] }, { accessFlags := 9, nameIndex := 11, descriptorIndex := 12, attributes := #[] }] 32 2 #[] #[])
  fields := #[]
  methods := #[k24m0, k24m1, k24m2]
  instanceTypes := #[]
  staticTypes := #[]
  resolved := Array.replicate 49 none
  statics := none }

def pool25 : Array CpInfo := pool [(16, .class_ 18), (1, u "java/util/Iterator"), (0, u "hasNext"), (0, u "()Z"), (2, u "next"), (0, u "()Ljava/lang/Object;"), (6, .class_ 32), (0, u "java/lang/Object")] 20

def k25m0 : Method := { name := "hasNext", desc := "()Z", sig := { parameters := [], returnType := some .boolean }, accessFlags := 1025, code := none }
def k25m1 : Method := { name := "next", desc := "()Ljava/lang/Object;", sig := { parameters := [], returnType := some (.object "java/lang/Object") }, accessFlags := 1025, code := none }
/-- java/util/Iterator -/
def k25 : Class := { plain "java/util/Iterator" (some 0) with
  accessFlags := 1537
  interfaces := #[]
  cf := some (fileOf pool25 16 #[] #[{ accessFlags := 1025, nameIndex := 19, descriptorIndex := 20, attributes := #[] }, { accessFlags := 1025, nameIndex := 23, descriptorIndex := 24, attributes := #[] }] 1537 31 #[] #[])
  fields := #[]
  methods := #[k25m0, k25m1]
  instanceTypes := #[]
  staticTypes := #[]
  resolved := Array.replicate 53 none
  statics := none }

def pool26 : Array CpInfo := pool [(1, .fieldref 2 3), (0, .class_ 4), (0, .nameAndType 5 6), (0, u "java/util/ArrayList$Itr"), (0, u "this$0"), (0, u "Ljava/util/ArrayList;"), (0, .methodref 8 9), (0, .class_ 10), (0, .nameAndType 11 12), (0, u "java/lang/Object"), (0, u "<init>"), (0, u "()V"), (0, .fieldref 2 14), (0, .nameAndType 15 16), (0, u "lastRet"), (0, u "I"), (0, .fieldref 18 19), (0, .class_ 20), (0, .nameAndType 21 16), (0, u "java/util/ArrayList"), (0, u "modCount"), (0, .fieldref 2 23), (0, .nameAndType 24 16), (0, u "expectedModCount"), (0, .fieldref 2 26), (0, .nameAndType 27 16), (0, u "cursor"), (0, .fieldref 18 29), (0, .nameAndType 30 16), (0, u "size"), (0, .methodref 2 32), (0, .nameAndType 33 12), (0, u "checkForComodification"), (3, .fieldref 18 38), (0, .nameAndType 39 40), (0, u "elementData"), (0, u "[Ljava/lang/Object;"), (28, .class_ 70), (0, u "java/util/Iterator"), (0, u "(Ljava/util/ArrayList;)V"), (8, u "hasNext"), (0, u "()Z"), (1, u "next"), (0, u "()Ljava/lang/Object;")] 19

def k26c0 : Code := { maxStack := 2, maxLocals := 2, code := jdk_49_method_1_code, exceptionTable := #[], attributes := #[] }
def k26m0 : Method := { name := "<init>", desc := "(Ljava/util/ArrayList;)V", sig := { parameters := [(.object "java/util/ArrayList")], returnType := none }, accessFlags := 0, code := some k26c0 }
def k26c1 : Code := { maxStack := 2, maxLocals := 1, code := jdk_49_method_2_code, exceptionTable := #[], attributes := #[] }
def k26m1 : Method := { name := "hasNext", desc := "()Z", sig := { parameters := [], returnType := some .boolean }, accessFlags := 1, code := some k26c1 }
def k26c2 : Code := { maxStack := 4, maxLocals := 3, code := jdk_49_method_3_code, exceptionTable := #[], attributes := #[] }
def k26m2 : Method := { name := "next", desc := "()Ljava/lang/Object;", sig := { parameters := [], returnType := some (.object "java/lang/Object") }, accessFlags := 1, code := some k26c2 }
def k26c3 : Code := { maxStack := 2, maxLocals := 1, code := jdk_49_method_6_code, exceptionTable := #[], attributes := #[] }
def k26m3 : Method := { name := "checkForComodification", desc := "()V", sig := { parameters := [], returnType := none }, accessFlags := 16, code := some k26c3 }
/-- java/util/ArrayList$Itr -/
def k26 : Class := { plain "java/util/ArrayList$Itr" (some 0) with
  accessFlags := 32
  interfaces := #[25]
  cf := some (fileOf pool26 2 #[.nestHost 18] #[{ accessFlags := 0, nameIndex := 11, descriptorIndex := 71, attributes := #[] }, { accessFlags := 1, nameIndex := 80, descriptorIndex := 81, attributes := #[] }, { accessFlags := 1, nameIndex := 83, descriptorIndex := 84, attributes := #[] }, { accessFlags := 16, nameIndex := 33, descriptorIndex := 12, attributes := #[] }] 32 8 #[69] #[{ accessFlags := 0, nameIndex := 27, descriptorIndex := 16, attributes := #[] }, { accessFlags := 0, nameIndex := 15, descriptorIndex := 16, attributes := #[] }, { accessFlags := 0, nameIndex := 24, descriptorIndex := 16, attributes := #[] }, { accessFlags := 4112, nameIndex := 5, descriptorIndex := 6, attributes := #[] }])
  fields := #[{ name := "cursor", type := .int, accessFlags := 0, slot := 0, constantValue := 0 }, { name := "lastRet", type := .int, accessFlags := 0, slot := 1, constantValue := 0 }, { name := "expectedModCount", type := .int, accessFlags := 0, slot := 2, constantValue := 0 }, { name := "this$0", type := (.object "java/util/ArrayList"), accessFlags := 4112, slot := 3, constantValue := 0 }]
  methods := #[k26m0, k26m1, k26m2, k26m3]
  instanceTypes := #[.int, .int, .int, (.object "java/util/ArrayList")]
  staticTypes := #[]
  resolved := Array.replicate 104 none
  statics := none }

def pool27 : Array CpInfo := pool [(2, .class_ 4), (1, u "java/lang/Object"), (0, u "<init>"), (0, u "()V"), (35, .class_ 44), (1, u "java/util/Objects"), (60, .methodref 106 107), (0, .class_ 108), (0, .nameAndType 109 110), (0, u "jdk/internal/util/Preconditions"), (0, u "checkIndex"), (0, u "(IILjava/util/function/BiFunction;)I"), (60, u "(II)I")] 12

def k27m0 : Method := { name := "<init>", desc := "()V", sig := { parameters := [], returnType := none }, accessFlags := 2, code := none }
def k27c1 : Code := { maxStack := 3, maxLocals := 2, code := jdk_31_method_17_code, exceptionTable := #[], attributes := #[] }
def k27m1 : Method := { name := "checkIndex", desc := "(II)I", sig := { parameters := [.int, .int], returnType := some .int }, accessFlags := 9, code := some k27c1 }
/-- java/util/Objects -/
def k27 : Class := { plain "java/util/Objects" (some 0) with
  accessFlags := 49
  interfaces := #[]
  cf := some (fileOf pool27 42 #[] #[{ accessFlags := 2, nameIndex := 5, descriptorIndex := 6, attributes := #[] }, { accessFlags := 9, nameIndex := 109, descriptorIndex := 171, attributes := #[] }] 49 2 #[] #[])
  fields := #[]
  methods := #[k27m0, k27m1]
  instanceTypes := #[]
  staticTypes := #[]
  resolved := Array.replicate 184 none
  statics := none }

def pool28 : Array CpInfo := pool [(2, .class_ 4), (1, u "java/lang/Object"), (0, u "<init>"), (0, u "()V"), (17, .class_ 26), (1, u "jdk/internal/util/Preconditions"), (6, u "checkIndex"), (21, .class_ 56), (0, u "jdk/internal/util/Preconditions$4"), (57, .class_ 115), (0, u "jdk/internal/util/Preconditions$1"), (7, u "SIOOBE_FORMATTER"), (0, u "Ljava/util/function/BiFunction;"), (0, .class_ 126), (0, u "jdk/internal/util/Preconditions$2"), (3, u "AIOOBE_FORMATTER"), (0, .class_ 132), (0, u "jdk/internal/util/Preconditions$3"), (3, u "IOOBE_FORMATTER"), (41, u "(IILjava/util/function/BiFunction;)I")] 15

def k28m0 : Method := { name := "<init>", desc := "()V", sig := { parameters := [], returnType := none }, accessFlags := 1, code := none }
def k28c1 : Code := { maxStack := 3, maxLocals := 3, code := jdk_41_method_11_code, exceptionTable := #[], attributes := #[] }
def k28m1 : Method := { name := "checkIndex", desc := "(IILjava/util/function/BiFunction;)I", sig := { parameters := [.int, .int, (.object "java/util/function/BiFunction")], returnType := some .int }, accessFlags := 9, code := some k28c1 }
/-- jdk/internal/util/Preconditions -/
def k28 : Class := { plain "jdk/internal/util/Preconditions" (some 0) with
  accessFlags := 33
  interfaces := #[]
  cf := some (fileOf pool28 24 #[.nestMembers #[55, 131, 125, 114]] #[{ accessFlags := 1, nameIndex := 5, descriptorIndex := 6, attributes := #[] }, { accessFlags := 9, nameIndex := 33, descriptorIndex := 178, attributes := #[] }] 33 2 #[] #[{ accessFlags := 25, nameIndex := 123, descriptorIndex := 124, attributes := #[] }, { accessFlags := 25, nameIndex := 130, descriptorIndex := 124, attributes := #[] }, { accessFlags := 25, nameIndex := 136, descriptorIndex := 124, attributes := #[] }])
  fields := #[{ name := "SIOOBE_FORMATTER", type := (.object "java/util/function/BiFunction"), accessFlags := 25, slot := 0, constantValue := 0 }, { name := "AIOOBE_FORMATTER", type := (.object "java/util/function/BiFunction"), accessFlags := 25, slot := 1, constantValue := 0 }, { name := "IOOBE_FORMATTER", type := (.object "java/util/function/BiFunction"), accessFlags := 25, slot := 2, constantValue := 0 }]
  methods := #[k28m0, k28m1]
  instanceTypes := #[]
  staticTypes := #[(.object "java/util/function/BiFunction"), (.object "java/util/function/BiFunction"), (.object "java/util/function/BiFunction")]
  resolved := Array.replicate 194 none
  statics := some 4 }

def pool29 : Array CpInfo := pool [(2, .class_ 4), (1, u "java/lang/Object"), (0, u "<init>"), (0, u "()V"), (1, .class_ 10), (1, u "java/lang/System"), (0, u "allowSecurityManager"), (0, u "I"), (16, u "cons"), (0, u "Ljava/io/Console;"), (77, .class_ 110), (1, u "java/lang/System$CallersHolder"), (43, u "initialErrStream"), (0, u "Ljava/io/PrintStream;"), (19, u "security"), (0, u "Ljava/lang/SecurityManager;"), (31, .class_ 209), (0, u "java/lang/System$1"), (7, u "props"), (0, u "Ljava/util/Properties;"), (2, u "lineSeparator"), (0, u "Ljava/lang/String;"), (96, .class_ 321), (1, u "java/lang/System$LoggerFinder"), (5, .class_ 328), (0, u "java/lang/System$Logger"), (67, u "err"), (2, u "out"), (91, u "notSupportedJnuEncoding"), (15, u "in"), (17, u "initialIn"), (0, u "Ljava/io/InputStream;"), (35, u "bootLayer"), (0, u "Ljava/lang/ModuleLayer;"), (99, .class_ 664), (0, u "java/lang/System$2"), (9, u "NEVER"), (2, u "MAYBE"), (49, u "arraycopy"), (0, u "(Ljava/lang/Object;ILjava/lang/Object;II)V"), (72, .class_ 802), (0, u "java/lang/System$Logger$Level")] 31

def k29m0 : Method := { name := "<init>", desc := "()V", sig := { parameters := [], returnType := none }, accessFlags := 2, code := none }
def k29m1 : Method := { name := "arraycopy", desc := "(Ljava/lang/Object;ILjava/lang/Object;II)V", sig := { parameters := [(.object "java/lang/Object"), .int, (.object "java/lang/Object"), .int, .int], returnType := none }, accessFlags := 265, code := none }
/-- java/lang/System -/
def k29 : Class := { plain "java/lang/System" (some 0) with
  accessFlags := 49
  interfaces := #[]
  cf := some (fileOf pool29 8 #[.nestMembers #[319, 327, 801, 108, 663, 208]] #[{ accessFlags := 2, nameIndex := 5, descriptorIndex := 6, attributes := #[] }, { accessFlags := 265, nameIndex := 727, descriptorIndex := 728, attributes := #[] }] 49 2 #[] #[{ accessFlags := 25, nameIndex := 507, descriptorIndex := 526, attributes := #[] }, { accessFlags := 25, nameIndex := 399, descriptorIndex := 155, attributes := #[] }, { accessFlags := 25, nameIndex := 396, descriptorIndex := 155, attributes := #[] }, { accessFlags := 10, nameIndex := 525, descriptorIndex := 526, attributes := #[] }, { accessFlags := 26, nameIndex := 674, descriptorIndex := 12, attributes := #[] }, { accessFlags := 26, nameIndex := 677, descriptorIndex := 12, attributes := #[] }, { accessFlags := 10, nameIndex := 11, descriptorIndex := 12, attributes := #[] }, { accessFlags := 74, nameIndex := 175, descriptorIndex := 176, attributes := #[] }, { accessFlags := 10, nameIndex := 491, descriptorIndex := 222, attributes := #[] }, { accessFlags := 74, nameIndex := 29, descriptorIndex := 30, attributes := #[] }, { accessFlags := 74, nameIndex := 154, descriptorIndex := 155, attributes := #[] }, { accessFlags := 10, nameIndex := 217, descriptorIndex := 218, attributes := #[] }, { accessFlags := 10, nameIndex := 221, descriptorIndex := 222, attributes := #[] }, { accessFlags := 8, nameIndex := 562, descriptorIndex := 563, attributes := #[] }])
  fields := #[{ name := "in", type := (.object "java/io/InputStream"), accessFlags := 25, slot := 0, constantValue := 0 }, { name := "out", type := (.object "java/io/PrintStream"), accessFlags := 25, slot := 1, constantValue := 0 }, { name := "err", type := (.object "java/io/PrintStream"), accessFlags := 25, slot := 2, constantValue := 0 }, { name := "initialIn", type := (.object "java/io/InputStream"), accessFlags := 10, slot := 3, constantValue := 0 }, { name := "NEVER", type := .int, accessFlags := 26, slot := 4, constantValue := 0 }, { name := "MAYBE", type := .int, accessFlags := 26, slot := 5, constantValue := 0 }, { name := "allowSecurityManager", type := .int, accessFlags := 10, slot := 6, constantValue := 0 }, { name := "security", type := (.object "java/lang/SecurityManager"), accessFlags := 74, slot := 7, constantValue := 0 }, { name := "notSupportedJnuEncoding", type := (.object "java/lang/String"), accessFlags := 10, slot := 8, constantValue := 0 }, { name := "cons", type := (.object "java/io/Console"), accessFlags := 74, slot := 9, constantValue := 0 }, { name := "initialErrStream", type := (.object "java/io/PrintStream"), accessFlags := 74, slot := 10, constantValue := 0 }, { name := "props", type := (.object "java/util/Properties"), accessFlags := 10, slot := 11, constantValue := 0 }, { name := "lineSeparator", type := (.object "java/lang/String"), accessFlags := 10, slot := 12, constantValue := 0 }, { name := "bootLayer", type := (.object "java/lang/ModuleLayer"), accessFlags := 8, slot := 13, constantValue := 0 }]
  methods := #[k29m0, k29m1]
  instanceTypes := #[]
  staticTypes := #[(.object "java/io/InputStream"), (.object "java/io/PrintStream"), (.object "java/io/PrintStream"), (.object "java/io/InputStream"), .int, .int, .int, (.object "java/lang/SecurityManager"), (.object "java/lang/String"), (.object "java/io/Console"), (.object "java/io/PrintStream"), (.object "java/util/Properties"), (.object "java/lang/String"), (.object "java/lang/ModuleLayer")]
  resolved := Array.replicate 834 none
  statics := none }

def pool30 : Array CpInfo := pool [(2, .class_ 4), (1, u "java/lang/Object"), (0, u "<init>"), (0, u "()V"), (6, .methodref 14 15), (0, .class_ 16), (0, .nameAndType 17 18), (0, u "java/util/Arrays"), (0, u "rangeCheck"), (0, u "(III)V"), (55, .class_ 76), (1, u "java/util/Arrays$NaturalOrder"), (36, .class_ 115), (1, u "java/util/Arrays$LegacyMergeSort"), (1, u "Z"), (32, .methodref 151 152), (0, .class_ 153), (0, .nameAndType 154 155), (0, u "java/lang/System"), (0, u "arraycopy"), (0, u "(Ljava/lang/Object;ILjava/lang/Object;II)V"), (90, .class_ 248), (1, u "jdk/internal/util/ArraysSupport"), (0, u "mismatch"), (25, .methodref 246 276), (0, .nameAndType 249 277), (0, u "([BI[BII)I"), (20, u "equals"), (3, u "copyOf"), (1, .methodref 305 306), (0, .class_ 307), (0, .nameAndType 308 309), (0, u "java/lang/Math"), (0, u "min"), (0, u "(II)I"), (65, .class_ 376), (0, u "java/util/Arrays$ArrayList"), (68, u "$assertionsDisabled"), (269, u "MIN_ARRAY_SORT_GRAN"), (0, u "I"), (2, u "INSERTIONSORT_THRESHOLD"), (111, u "([BII[BII)Z"), (37, u "([BI)[B"), (105, .class_ 976), (0, u "java/util/Arrays$ArrayItr")] 52

def k30m0 : Method := { name := "<init>", desc := "()V", sig := { parameters := [], returnType := none }, accessFlags := 2, code := none }
def k30c1 : Code := { maxStack := 4, maxLocals := 3, code := jdk_65_method_30_code, exceptionTable := #[], attributes := #[] }
def k30m1 : Method := { name := "rangeCheck", desc := "(III)V", sig := { parameters := [.int, .int, .int], returnType := none }, accessFlags := 8, code := some k30c1 }
def k30c2 : Code := { maxStack := 5, maxLocals := 8, code := jdk_65_method_90_code, exceptionTable := #[], attributes := #[] }
def k30m2 : Method := { name := "equals", desc := "([BII[BII)Z", sig := { parameters := [(.array .byte), .int, .int, (.array .byte), .int, .int], returnType := some .boolean }, accessFlags := 9, code := some k30c2 }
def k30c3 : Code := { maxStack := 6, maxLocals := 3, code := jdk_65_method_121_code, exceptionTable := #[], attributes := #[] }
def k30m3 : Method := { name := "copyOf", desc := "([BI)[B", sig := { parameters := [(.array .byte), .int], returnType := some (.array .byte) }, accessFlags := 9, code := some k30c3 }
/-- java/util/Arrays -/
def k30 : Class := { plain "java/util/Arrays" (some 0) with
  accessFlags := 49
  interfaces := #[]
  cf := some (fileOf pool30 14 #[.nestMembers #[975, 375, 113, 74]] #[{ accessFlags := 2, nameIndex := 5, descriptorIndex := 6, attributes := #[] }, { accessFlags := 8, nameIndex := 17, descriptorIndex := 18, attributes := #[] }, { accessFlags := 9, nameIndex := 298, descriptorIndex := 831, attributes := #[] }, { accessFlags := 9, nameIndex := 302, descriptorIndex := 869, attributes := #[] }] 49 2 #[] #[{ accessFlags := 26, nameIndex := 715, descriptorIndex := 716, attributes := #[] }, { accessFlags := 26, nameIndex := 719, descriptorIndex := 716, attributes := #[] }, { accessFlags := 4120, nameIndex := 445, descriptorIndex := 117, attributes := #[] }])
  fields := #[{ name := "MIN_ARRAY_SORT_GRAN", type := .int, accessFlags := 26, slot := 0, constantValue := 0 }, { name := "INSERTIONSORT_THRESHOLD", type := .int, accessFlags := 26, slot := 1, constantValue := 0 }, { name := "$assertionsDisabled", type := .boolean, accessFlags := 4120, slot := 2, constantValue := 0 }]
  methods := #[k30m0, k30m1, k30m2, k30m3]
  instanceTypes := #[]
  staticTypes := #[.int, .int, .boolean]
  resolved := Array.replicate 1029 none
  statics := none }

def pool31 : Array CpInfo := pool [(9, u "<init>"), (6, .class_ 18), (1, u "java/lang/Object"), (0, u "()V"), (1, .class_ 23), (1, u "jdk/internal/util/ArraysSupport"), (0, u "LOG2_ARRAY_LONG_INDEX_SCALE"), (0, u "I"), (2, u "U"), (0, u "Ljdk/internal/misc/Unsafe;"), (8, u "BIG_ENDIAN"), (0, u "Z"), (8, u "LOG2_BYTE_BIT_SIZE"), (4, u "LOG2_ARRAY_INT_INDEX_SCALE"), (54, u "JLA"), (0, u "Ljdk/internal/access/JavaLangAccess;"), (11, u "LOG2_ARRAY_BOOLEAN_INDEX_SCALE"), (9, u "LOG2_ARRAY_BYTE_INDEX_SCALE"), (5, u "LOG2_ARRAY_CHAR_INDEX_SCALE"), (5, u "LOG2_ARRAY_SHORT_INDEX_SCALE"), (5, u "mismatch"), (12, u "LOG2_ARRAY_FLOAT_INDEX_SCALE"), (24, u "LOG2_ARRAY_DOUBLE_INDEX_SCALE"), (89, u "T_BOOLEAN"), (2, u "T_CHAR"), (1, u "T_FLOAT"), (1, u "T_DOUBLE"), (1, u "T_BYTE"), (1, u "T_SHORT"), (1, u "T_INT"), (1, u "T_LONG"), (1, u "SOFT_MAX_ARRAY_LENGTH"), (42, u "([BI[BII)I")] 40

def k31m0 : Method := { name := "<init>", desc := "()V", sig := { parameters := [], returnType := none }, accessFlags := 2, code := none }
def k31c1 : Code := { maxStack := 8, maxLocals := 8, code := jdk_48_method_14_code, exceptionTable := #[], attributes := #[] }
def k31m1 : Method := { name := "mismatch", desc := "([BI[BII)I", sig := { parameters := [(.array .byte), .int, (.array .byte), .int, .int], returnType := some .int }, accessFlags := 9, code := some k31c1 }
/-- jdk/internal/util/ArraysSupport -/
def k31 : Class := { plain "jdk/internal/util/ArraysSupport" (some 0) with
  accessFlags := 33
  interfaces := #[]
  cf := some (fileOf pool31 21 #[] #[{ accessFlags := 2, nameIndex := 9, descriptorIndex := 19, attributes := #[] }, { accessFlags := 9, nameIndex := 149, descriptorIndex := 337, attributes := #[] }] 33 16 #[] #[{ accessFlags := 24, nameIndex := 28, descriptorIndex := 29, attributes := #[] }, { accessFlags := 26, nameIndex := 38, descriptorIndex := 39, attributes := #[] }, { accessFlags := 25, nameIndex := 121, descriptorIndex := 25, attributes := #[] }, { accessFlags := 25, nameIndex := 131, descriptorIndex := 25, attributes := #[] }, { accessFlags := 25, nameIndex := 137, descriptorIndex := 25, attributes := #[] }, { accessFlags := 25, nameIndex := 143, descriptorIndex := 25, attributes := #[] }, { accessFlags := 25, nameIndex := 53, descriptorIndex := 25, attributes := #[] }, { accessFlags := 25, nameIndex := 24, descriptorIndex := 25, attributes := #[] }, { accessFlags := 25, nameIndex := 162, descriptorIndex := 25, attributes := #[] }, { accessFlags := 25, nameIndex := 187, descriptorIndex := 25, attributes := #[] }, { accessFlags := 26, nameIndex := 48, descriptorIndex := 25, attributes := #[] }, { accessFlags := 25, nameIndex := 277, descriptorIndex := 25, attributes := #[] }, { accessFlags := 25, nameIndex := 280, descriptorIndex := 25, attributes := #[] }, { accessFlags := 25, nameIndex := 282, descriptorIndex := 25, attributes := #[] }, { accessFlags := 25, nameIndex := 284, descriptorIndex := 25, attributes := #[] }, { accessFlags := 25, nameIndex := 286, descriptorIndex := 25, attributes := #[] }, { accessFlags := 25, nameIndex := 288, descriptorIndex := 25, attributes := #[] }, { accessFlags := 25, nameIndex := 290, descriptorIndex := 25, attributes := #[] }, { accessFlags := 25, nameIndex := 292, descriptorIndex := 25, attributes := #[] }, { accessFlags := 26, nameIndex := 108, descriptorIndex := 109, attributes := #[] }, { accessFlags := 25, nameIndex := 294, descriptorIndex := 25, attributes := #[] }])
  fields := #[{ name := "U", type := (.object "jdk/internal/misc/Unsafe"), accessFlags := 24, slot := 0, constantValue := 0 }, { name := "BIG_ENDIAN", type := .boolean, accessFlags := 26, slot := 1, constantValue := 0 }, { name := "LOG2_ARRAY_BOOLEAN_INDEX_SCALE", type := .int, accessFlags := 25, slot := 2, constantValue := 0 }, { name := "LOG2_ARRAY_BYTE_INDEX_SCALE", type := .int, accessFlags := 25, slot := 3, constantValue := 0 }, { name := "LOG2_ARRAY_CHAR_INDEX_SCALE", type := .int, accessFlags := 25, slot := 4, constantValue := 0 }, { name := "LOG2_ARRAY_SHORT_INDEX_SCALE", type := .int, accessFlags := 25, slot := 5, constantValue := 0 }, { name := "LOG2_ARRAY_INT_INDEX_SCALE", type := .int, accessFlags := 25, slot := 6, constantValue := 0 }, { name := "LOG2_ARRAY_LONG_INDEX_SCALE", type := .int, accessFlags := 25, slot := 7, constantValue := 0 }, { name := "LOG2_ARRAY_FLOAT_INDEX_SCALE", type := .int, accessFlags := 25, slot := 8, constantValue := 0 }, { name := "LOG2_ARRAY_DOUBLE_INDEX_SCALE", type := .int, accessFlags := 25, slot := 9, constantValue := 0 }, { name := "LOG2_BYTE_BIT_SIZE", type := .int, accessFlags := 26, slot := 10, constantValue := 0 }, { name := "T_BOOLEAN", type := .int, accessFlags := 25, slot := 11, constantValue := 0 }, { name := "T_CHAR", type := .int, accessFlags := 25, slot := 12, constantValue := 0 }, { name := "T_FLOAT", type := .int, accessFlags := 25, slot := 13, constantValue := 0 }, { name := "T_DOUBLE", type := .int, accessFlags := 25, slot := 14, constantValue := 0 }, { name := "T_BYTE", type := .int, accessFlags := 25, slot := 15, constantValue := 0 }, { name := "T_SHORT", type := .int, accessFlags := 25, slot := 16, constantValue := 0 }, { name := "T_INT", type := .int, accessFlags := 25, slot := 17, constantValue := 0 }, { name := "T_LONG", type := .int, accessFlags := 25, slot := 18, constantValue := 0 }, { name := "JLA", type := (.object "jdk/internal/access/JavaLangAccess"), accessFlags := 26, slot := 19, constantValue := 0 }, { name := "SOFT_MAX_ARRAY_LENGTH", type := .int, accessFlags := 25, slot := 20, constantValue := 0 }]
  methods := #[k31m0, k31m1]
  instanceTypes := #[]
  staticTypes := #[(.object "jdk/internal/misc/Unsafe"), .boolean, .int, .int, .int, .int, .int, .int, .int, .int, .int, .int, .int, .int, .int, .int, .int, .int, .int, (.object "jdk/internal/access/JavaLangAccess"), .int]
  resolved := Array.replicate 378 none
  statics := none }

def pool32 : Array CpInfo := pool [(6, .class_ 8), (1, u "java/lang/Object"), (0, u "<init>"), (0, u "()V"), (0, .methodref 12 13), (0, .class_ 14), (0, .nameAndType 15 16), (0, u "java/lang/StringUTF16"), (0, u "newBytesLength"), (0, u "(I)I"), (3, .integer 1073741823), (25, u "$assertionsDisabled"), (0, u "Z"), (13, u "HI_BYTE_SHIFT"), (0, u "I"), (2, u "LO_BYTE_SHIFT"), (43, u "newBytesFor"), (0, u "(I)[B"), (4, .methodref 12 116), (0, .nameAndType 117 118), (0, u "compress"), (0, u "([CI[BII)I"), (3, u "([CII)[B"), (138, u "coderFromArrayLen"), (0, u "([BI)B"), (106, .class_ 371), (1, u "java/lang/StringUTF16$LinesSpliterator"), (58, u "MAX_LENGTH"), (196, .class_ 628), (0, u "java/lang/StringUTF16$CodePointsSpliterator"), (0, .class_ 630), (0, u "java/lang/StringUTF16$CharsSpliterator")] 4

def k32m0 : Method := { name := "<init>", desc := "()V", sig := { parameters := [], returnType := none }, accessFlags := 0, code := none }
def k32c1 : Code := { maxStack := 1, maxLocals := 1, code := jdk_52_method_2_code, exceptionTable := #[], attributes := #[] }
def k32m1 : Method := { name := "newBytesFor", desc := "(I)[B", sig := { parameters := [.int], returnType := some (.array .byte) }, accessFlags := 9, code := some k32c1 }
def k32c2 : Code := { maxStack := 4, maxLocals := 1, code := jdk_52_method_3_code, exceptionTable := #[], attributes := #[] }
def k32m2 : Method := { name := "newBytesLength", desc := "(I)I", sig := { parameters := [.int], returnType := some .int }, accessFlags := 9, code := some k32c2 }
def k32c3 : Code := { maxStack := 2, maxLocals := 2, code := jdk_52_method_15_code, exceptionTable := #[], attributes := #[] }
def k32m3 : Method := { name := "coderFromArrayLen", desc := "([BI)B", sig := { parameters := [(.array .byte), .int], returnType := some .byte }, accessFlags := 8, code := some k32c3 }
def k32c4 : Code := { maxStack := 5, maxLocals := 6, code := jdk_52_method_16_code, exceptionTable := #[], attributes := #[] }
def k32m4 : Method := { name := "compress", desc := "([CII)[B", sig := { parameters := [(.array .char), .int, .int], returnType := some (.array .byte) }, accessFlags := 9, code := some k32c4 }
def k32c5 : Code := { maxStack := 3, maxLocals := 7, code := jdk_52_method_21_code, exceptionTable := #[], attributes := #[] }
def k32m5 : Method := { name := "compress", desc := "([CI[BII)I", sig := { parameters := [(.array .char), .int, (.array .byte), .int, .int], returnType := some .int }, accessFlags := 9, code := some k32c5 }
/-- java/lang/StringUTF16 -/
def k32 : Class := { plain "java/lang/StringUTF16" (some 0) with
  accessFlags := 48
  interfaces := #[]
  cf := some (fileOf pool32 12 #[.nestMembers #[627, 629, 369]] #[{ accessFlags := 0, nameIndex := 9, descriptorIndex := 10, attributes := #[] }, { accessFlags := 9, nameIndex := 109, descriptorIndex := 110, attributes := #[] }, { accessFlags := 9, nameIndex := 15, descriptorIndex := 16, attributes := #[] }, { accessFlags := 8, nameIndex := 261, descriptorIndex := 262, attributes := #[] }, { accessFlags := 9, nameIndex := 117, descriptorIndex := 122, attributes := #[] }, { accessFlags := 9, nameIndex := 117, descriptorIndex := 118, attributes := #[] }] 48 6 #[] #[{ accessFlags := 26, nameIndex := 61, descriptorIndex := 62, attributes := #[] }, { accessFlags := 26, nameIndex := 65, descriptorIndex := 62, attributes := #[] }, { accessFlags := 24, nameIndex := 430, descriptorIndex := 62, attributes := #[] }, { accessFlags := 4120, nameIndex := 46, descriptorIndex := 47, attributes := #[] }])
  fields := #[{ name := "HI_BYTE_SHIFT", type := .int, accessFlags := 26, slot := 0, constantValue := 0 }, { name := "LO_BYTE_SHIFT", type := .int, accessFlags := 26, slot := 1, constantValue := 0 }, { name := "MAX_LENGTH", type := .int, accessFlags := 24, slot := 2, constantValue := 0 }, { name := "$assertionsDisabled", type := .boolean, accessFlags := 4120, slot := 3, constantValue := 0 }]
  methods := #[k32m0, k32m1, k32m2, k32m3, k32m4, k32m5]
  instanceTypes := #[]
  staticTypes := #[.int, .int, .int, .boolean]
  resolved := Array.replicate 635 none
  statics := none }

def pool33 : Array CpInfo := pool [(4, .class_ 6), (1, u "java/lang/Object"), (0, u "<init>"), (0, u "()V"), (5, .class_ 16), (1, u "java/lang/StringLatin1"), (73, u "canEncode"), (14, u "(C)Z"), (15, u "$assertionsDisabled"), (0, u "Z"), (98, .class_ 223), (1, u "java/lang/StringLatin1$LinesSpliterator"), (57, u "equals"), (0, u "([B[B)Z"), (97, u "toBytes"), (1, u "(C)[B"), (7, .class_ 391), (0, u "java/lang/StringLatin1$CharsSpliterator")] 3

def k33m0 : Method := { name := "<init>", desc := "()V", sig := { parameters := [], returnType := none }, accessFlags := 0, code := none }
def k33c1 : Code := { maxStack := 2, maxLocals := 1, code := jdk_43_method_3_code, exceptionTable := #[], attributes := #[] }
def k33m1 : Method := { name := "canEncode", desc := "(C)Z", sig := { parameters := [.char], returnType := some .boolean }, accessFlags := 9, code := some k33c1 }
def k33c2 : Code := { maxStack := 3, maxLocals := 3, code := jdk_43_method_13_code, exceptionTable := #[], attributes := #[] }
def k33m2 : Method := { name := "equals", desc := "([B[B)Z", sig := { parameters := [(.array .byte), (.array .byte)], returnType := some .boolean }, accessFlags := 9, code := some k33c2 }
def k33c3 : Code := { maxStack := 4, maxLocals := 1, code := jdk_43_method_46_code, exceptionTable := #[], attributes := #[] }
def k33m3 : Method := { name := "toBytes", desc := "(C)[B", sig := { parameters := [.char], returnType := some (.array .byte) }, accessFlags := 9, code := some k33c3 }
/-- java/lang/StringLatin1 -/
def k33 : Class := { plain "java/lang/StringLatin1" (some 0) with
  accessFlags := 48
  interfaces := #[]
  cf := some (fileOf pool33 14 #[.nestMembers #[390, 221]] #[{ accessFlags := 0, nameIndex := 7, descriptorIndex := 8, attributes := #[] }, { accessFlags := 9, nameIndex := 90, descriptorIndex := 105, attributes := #[] }, { accessFlags := 9, nameIndex := 281, descriptorIndex := 282, attributes := #[] }, { accessFlags := 9, nameIndex := 380, descriptorIndex := 382, attributes := #[] }] 48 4 #[] #[{ accessFlags := 4120, nameIndex := 121, descriptorIndex := 122, attributes := #[] }])
  fields := #[{ name := "$assertionsDisabled", type := .boolean, accessFlags := 4120, slot := 0, constantValue := 0 }]
  methods := #[k33m0, k33m1, k33m2, k33m3]
  instanceTypes := #[]
  staticTypes := #[.boolean]
  resolved := Array.replicate 395 none
  statics := none }

/-- the primitive byte -/
def k34 : Class := { plain "byte" none with kind := .primitive 'B', accessFlags := 0x411 }
/-- [B -/
def k35 : Class := { plain "[B" (some 0) with kind := .array 34 .byte, interfaces := #[15, 2], accessFlags := 1041 }

/-- the primitive char -/
def k36 : Class := { plain "char" none with kind := .primitive 'C', accessFlags := 0x411 }
/-- [C -/
def k37 : Class := { plain "[C" (some 0) with kind := .array 36 .char, interfaces := #[15, 2], accessFlags := 1041 }

/-- the primitive int -/
def k38 : Class := { plain "int" none with kind := .primitive 'I', accessFlags := 0x411 }
/-- [I -/
def k39 : Class := { plain "[I" (some 0) with kind := .array 38 .int, interfaces := #[15, 2], accessFlags := 1041 }

/-- [Ljava/lang/Object; -/
def k40 : Class := { plain "[Ljava/lang/Object;" (some 0) with kind := .array 0 (.object "java/lang/Object"), interfaces := #[15, 2], accessFlags := 1041 }

def heap : Heap := #[{ cls := 7, slots := #[.long 0, .int 1, .null, .int 0, .null, .int 0, .int 0], vm := .statics 7 },
  { cls := 16, slots := #[.long 0, .int 0, .ref 5, .ref 6], vm := .statics 16 },
  { cls := 19, slots := #[.null, .null, .ref 7, .null, .null, .null], vm := .statics 19 },
  { cls := 23, slots := #[.ref 7, .null], vm := .statics 23 },
  { cls := 28, slots := #[.null, .null, .null], vm := .statics 28 },
  { cls := 40, slots := #[], vm := .none },
  { cls := 40, slots := #[], vm := .none },
  { cls := 23, slots := #[.null, .null, .null], vm := .none }]
def classes : Array Class := #[k0, k1, k2, k3, k4, k5, k6, k7, k8, k9, k10, k11, k12, k13, k14, k15, k16, k17, k18, k19, k20, k21, k22, k23, k24, k25, k26, k27, k28, k29, k30, k31, k32, k33, k34, k35, k36, k37, k38, k39, k40]
def interned : List (Array UInt16 × Addr) := []
def slotsUsed : Nat := 25
def theMethod : MethodId := ⟨1, 2⟩
def args0 : Array Value := #[.int 65633, .int 65634, .int 65635, .int 65633, .int 2]
def aboutOver (below : List Frame) : State where
  vm := { classes := classes, interned := interned.toArray }
  heap := heap
  slotsUsed := slotsUsed
  threads := #[{ frames := .invoking theMethod args0 :: below }]
def below0 : List Frame := [.native { method := ⟨0, 0⟩, args := #[] }]
def about1 : State := aboutOver below0
def p0 : Program := .bare "" "" ""
def e0 : Env := launch0.env 0 0 0
theorem w_frames : about1.frames = Frame.invoking theMethod args0 :: below0 := rfl
set_option maxRecDepth 65536 in
theorem w_args : argsFit about1.vm theMethod args0 = true := by decide +kernel
set_option maxRecDepth 65536 in
theorem w_heap : heapFits about1 = true := by decide +kernel
set_option maxRecDepth 65536 in
theorem w_runnable : about1.curStatus? = some .runnable := by decide +kernel
set_option maxRecDepth 65536 in
theorem w_alone : about1.alone = true := by decide +kernel
set_option maxRecDepth 65536 in
theorem w_named : about1.methodNamed? x = some theMethod := by decide +kernel
set_option maxRecDepth 65536 in
theorem w_hears : about1.hears theMethod below0 = true := by decide +kernel
set_option maxRecDepth 65536 in
theorem w_ripe : about1.ripe theMethod args0 below0 = true := by decide +kernel
theorem w_running : about1.status = .running := rfl
set_option maxRecDepth 65536 in
theorem w_room : about1.hasRoom e0.platform room_1 = true :=
  launch0.hasRoom_least _ room_1 (by decide +kernel) (by decide +kernel) (by decide +kernel) (by decide +kernel) (by decide +kernel) (by decide +kernel)
theorem allAtoms_all (ts : List Jvm.Cond) (a : Array Jvm.Value) (st : Jvm.State) : (allAtoms ts).before a st = ts.all (fun c => c.before a st) := by
  induction ts with
  | nil => rfl
  | cons c t ih =>
    show (Jvm.Cond.and c (allAtoms t)).before a st = _
    rw [Jvm.Cond.before_and, ih, List.all_cons]
def words1 : List Jvm.Cond := Jvm.Cond.code x code maxLocals ret :: tables_1
/-- a 'code' word, met by the world's own term for the bytes: nothing is compared byte by byte -/
theorem code_word {y : MethodName} {bytes : ByteArray} {mx : Nat} {rt : Option FieldType} {a : Array Value} {s : State} {m : MethodId} {meth : Method} {c : Code} (h1 : s.methodNamed? y = some m) (h2 : s.vm.method? m = some meth) (h3 : meth.code = some c) (h4 : c.code = bytes)
    (h5 : (c.maxLocals == mx && c.exceptionTable.isEmpty && decide (c.maxStack ≤ mostOperands) && decide (meth.sig.returnType = rt) && !meth.locks && decide (parseMethodDescriptor y.desc = some meth.sig)) = true) : (Jvm.Cond.code y bytes mx rt).before a s = true := by
  simp only [Bool.and_eq_true, beq_iff_eq, Bool.not_eq_true', decide_eq_true_eq] at h5
  obtain ⟨⟨⟨⟨⟨g1, g2⟩, g3⟩, g4⟩, g5⟩, g6⟩ := h5
  simp [Cond.before, Cond.holds, Cond.value, h1, h2, h3, h4, g1, g2, g3, g4, g5, g6]
def isCode : Jvm.Cond → Bool
  | .code _ _ _ _ => true
  | _ => false
theorem all_split {L : List Jvm.Cond} {P : Jvm.Cond → Bool} (h1 : L.all (fun c => isCode c || P c) = true) (h2 : ∀ c ∈ L.filter isCode, P c = true) : L.all P = true := by
  refine List.all_eq_true.mpr fun c hc => ?_
  have h := List.all_eq_true.mp h1 c hc
  rcases Bool.eq_false_or_eq_true (isCode c) with hi | hi
  · exact h2 c (List.mem_filter.mpr ⟨hc, hi⟩)
  · simpa [hi] using h
set_option maxRecDepth 65536 in
theorem w_c0 : (Jvm.Cond.code x code maxLocals ret).before args0 about1 = true := code_word (m := ⟨1, 2⟩) (meth := k1m2) (c := k1c2) (by decide +kernel) rfl rfl rfl (by decide +kernel)
set_option maxRecDepth 65536 in
theorem w_c1 : (Jvm.Cond.code ({ cls := "com/example/recordweave/recordweave/store/KeyIndexFileOfPinLaw", name := "key", desc := "(I)Ljava/lang/String;" } : Jvm.MethodName) method_2_code (5 : Nat) (Option.some (Jvm.ClassFile.FieldType.object "java/lang/String"))).before args0 about1 = true := code_word (m := ⟨1, 1⟩) (meth := k1m1) (c := k1c1) (by decide +kernel) rfl rfl rfl (by decide +kernel)
set_option maxRecDepth 65536 in
theorem w_c2 : (Jvm.Cond.code ({ cls := "java/util/ArrayList", name := "<init>", desc := "()V" } : Jvm.MethodName) jdk_38_method_2_code (1 : Nat) (Option.none : Option Jvm.ClassFile.FieldType)).before args0 about1 = true := code_word (m := ⟨16, 1⟩) (meth := k16m1) (c := k16c1) (by decide +kernel) rfl rfl rfl (by decide +kernel)
set_option maxRecDepth 65536 in
theorem w_c3 : (Jvm.Cond.code ({ cls := "java/util/AbstractList", name := "<init>", desc := "()V" } : Jvm.MethodName) jdk_39_method_1_code (1 : Nat) (Option.none : Option Jvm.ClassFile.FieldType)).before args0 about1 = true := code_word (m := ⟨13, 0⟩) (meth := k13m0) (c := k13c0) (by decide +kernel) rfl rfl rfl (by decide +kernel)
set_option maxRecDepth 65536 in
theorem w_c4 : (Jvm.Cond.code ({ cls := "java/util/AbstractCollection", name := "<init>", desc := "()V" } : Jvm.MethodName) jdk_22_method_1_code (1 : Nat) (Option.none : Option Jvm.ClassFile.FieldType)).before args0 about1 = true := code_word (m := ⟨10, 0⟩) (meth := k10m0) (c := k10c0) (by decide +kernel) rfl rfl rfl (by decide +kernel)
set_option maxRecDepth 65536 in
theorem w_c5 : (Jvm.Cond.code ({ cls := "java/lang/Object", name := "<init>", desc := "()V" } : Jvm.MethodName) object_method_1_code (1 : Nat) (Option.none : Option Jvm.ClassFile.FieldType)).before args0 about1 = true := code_word (m := ⟨0, 0⟩) (meth := k0m0) (c := k0c0) (by decide +kernel) rfl rfl rfl (by decide +kernel)
set_option maxRecDepth 65536 in
theorem w_c6 : (Jvm.Cond.code ({ cls := "java/util/ArrayList", name := "add", desc := "(Ljava/lang/Object;)Z" } : Jvm.MethodName) jdk_38_method_25_code (2 : Nat) (Option.some Jvm.ClassFile.FieldType.boolean)).before args0 about1 = true := code_word (m := ⟨16, 8⟩) (meth := k16m8) (c := k16c8) (by decide +kernel) rfl rfl rfl (by decide +kernel)
set_option maxRecDepth 65536 in
theorem w_c7 : (Jvm.Cond.code ({ cls := "java/util/ArrayList", name := "add", desc := "(Ljava/lang/Object;[Ljava/lang/Object;I)V" } : Jvm.MethodName) jdk_38_method_24_code (4 : Nat) (Option.none : Option Jvm.ClassFile.FieldType)).before args0 about1 = true := code_word (m := ⟨16, 7⟩) (meth := k16m7) (c := k16c7) (by decide +kernel) rfl rfl rfl (by decide +kernel)
set_option maxRecDepth 65536 in
theorem w_c8 : (Jvm.Cond.code ({ cls := "java/util/ArrayList", name := "grow", desc := "()[Ljava/lang/Object;" } : Jvm.MethodName) jdk_38_method_7_code (1 : Nat) (Option.some (Jvm.ClassFile.FieldType.array (Jvm.ClassFile.FieldType.object "java/lang/Object")))).before args0 about1 = true := code_word (m := ⟨16, 3⟩) (meth := k16m3) (c := k16c3) (by decide +kernel) rfl rfl rfl (by decide +kernel)
set_option maxRecDepth 65536 in
theorem w_c9 : (Jvm.Cond.code ({ cls := "java/util/ArrayList", name := "grow", desc := "(I)[Ljava/lang/Object;" } : Jvm.MethodName) jdk_38_method_6_code (4 : Nat) (Option.some (Jvm.ClassFile.FieldType.array (Jvm.ClassFile.FieldType.object "java/lang/Object")))).before args0 about1 = true := code_word (m := ⟨16, 2⟩) (meth := k16m2) (c := k16c2) (by decide +kernel) rfl rfl rfl (by decide +kernel)
set_option maxRecDepth 65536 in
theorem w_c10 : (Jvm.Cond.code ({ cls := "java/lang/Math", name := "max", desc := "(II)I" } : Jvm.MethodName) jdk_29_method_65_code (2 : Nat) (Option.some Jvm.ClassFile.FieldType.int)).before args0 about1 = true := code_word (m := ⟨17, 1⟩) (meth := k17m1) (c := k17c1) (by decide +kernel) rfl rfl rfl (by decide +kernel)
set_option maxRecDepth 65536 in
theorem w_c11 : (Jvm.Cond.code ({ cls := "com/example/recordweave/recordweave/store/KeyIndex", name := "<init>", desc := "()V" } : Jvm.MethodName) prog_1_method_1_code (1 : Nat) (Option.none : Option Jvm.ClassFile.FieldType)).before args0 about1 = true := code_word (m := ⟨18, 0⟩) (meth := k18m0) (c := k18c0) (by decide +kernel) rfl rfl rfl (by decide +kernel)
set_option maxRecDepth 65536 in
theorem w_c12 : (Jvm.Cond.code ({ cls := "com/example/recordweave/recordweave/store/KeyIndex", name := "fileOf", desc := "(Ljava/lang/String;)I" } : Jvm.MethodName) prog_1_method_3_code (4 : Nat) (Option.some Jvm.ClassFile.FieldType.int)).before args0 about1 = true := code_word (m := ⟨18, 2⟩) (meth := k18m2) (c := k18c2) (by decide +kernel) rfl rfl rfl (by decide +kernel)
set_option maxRecDepth 65536 in
theorem w_c13 : (Jvm.Cond.code ({ cls := "java/lang/String", name := "getBytes", desc := "(Ljava/nio/charset/Charset;)[B" } : Jvm.MethodName) jdk_42_method_64_code (2 : Nat) (Option.some (Jvm.ClassFile.FieldType.array Jvm.ClassFile.FieldType.byte))).before args0 about1 = true := code_word (m := ⟨7, 4⟩) (meth := k7m4) (c := k7c4) (by decide +kernel) rfl rfl rfl (by decide +kernel)
set_option maxRecDepth 65536 in
theorem w_c14 : (Jvm.Cond.code ({ cls := "java/lang/String", name := "coder", desc := "()B" } : Jvm.MethodName) jdk_42_method_152_code (1 : Nat) (Option.some Jvm.ClassFile.FieldType.byte)).before args0 about1 = true := code_word (m := ⟨7, 9⟩) (meth := k7m9) (c := k7c9) (by decide +kernel) rfl rfl rfl (by decide +kernel)
set_option maxRecDepth 65536 in
theorem w_c15 : (Jvm.Cond.code ({ cls := "java/lang/String", name := "encode", desc := "(Ljava/nio/charset/Charset;B[B)[B" } : Jvm.MethodName) jdk_42_method_18_code (3 : Nat) (Option.some (Jvm.ClassFile.FieldType.array Jvm.ClassFile.FieldType.byte))).before args0 about1 = true := code_word (m := ⟨7, 2⟩) (meth := k7m2) (c := k7c2) (by decide +kernel) rfl rfl rfl (by decide +kernel)
set_option maxRecDepth 65536 in
theorem w_c16 : (Jvm.Cond.code ({ cls := "java/lang/String", name := "encodeUTF8", desc := "(B[BZ)[B" } : Jvm.MethodName) jdk_42_method_46_code (9 : Nat) (Option.some (Jvm.ClassFile.FieldType.array Jvm.ClassFile.FieldType.byte))).before args0 about1 = true := code_word (m := ⟨7, 3⟩) (meth := k7m3) (c := k7c3) (by decide +kernel) rfl rfl rfl (by decide +kernel)
set_option maxRecDepth 65536 in
theorem w_c17 : (Jvm.Cond.code ({ cls := "java/lang/StringCoding", name := "hasNegatives", desc := "([BII)Z" } : Jvm.MethodName) jdk_123_method_2_code (3 : Nat) (Option.some Jvm.ClassFile.FieldType.boolean)).before args0 about1 = true := code_word (m := ⟨24, 1⟩) (meth := k24m1) (c := k24c1) (by decide +kernel) rfl rfl rfl (by decide +kernel)
set_option maxRecDepth 65536 in
theorem w_c18 : (Jvm.Cond.code ({ cls := "java/lang/StringCoding", name := "countPositives", desc := "([BII)I" } : Jvm.MethodName) jdk_123_method_3_code (5 : Nat) (Option.some Jvm.ClassFile.FieldType.int)).before args0 about1 = true := code_word (m := ⟨24, 2⟩) (meth := k24m2) (c := k24c2) (by decide +kernel) rfl rfl rfl (by decide +kernel)
set_option maxRecDepth 65536 in
theorem w_c19 : (Jvm.Cond.code ({ cls := "com/example/recordweave/recordweave/store/KeyIndex", name := "find", desc := "([BII)I" } : Jvm.MethodName) prog_1_method_4_code (8 : Nat) (Option.some Jvm.ClassFile.FieldType.int)).before args0 about1 = true := code_word (m := ⟨18, 3⟩) (meth := k18m3) (c := k18c3) (by decide +kernel) rfl rfl rfl (by decide +kernel)
set_option maxRecDepth 65536 in
theorem w_c20 : (Jvm.Cond.code ({ cls := "com/example/recordweave/recordweave/store/KeyIndex", name := "hash", desc := "([BII)I" } : Jvm.MethodName) prog_1_method_7_code (5 : Nat) (Option.some Jvm.ClassFile.FieldType.int)).before args0 about1 = true := code_word (m := ⟨18, 6⟩) (meth := k18m6) (c := k18c6) (by decide +kernel) rfl rfl rfl (by decide +kernel)
set_option maxRecDepth 65536 in
theorem w_c21 : (Jvm.Cond.code ({ cls := "com/example/recordweave/recordweave/store/KeyIndex", name := "add", desc := "(Ljava/util/List;)I" } : Jvm.MethodName) prog_1_method_2_code (10 : Nat) (Option.some Jvm.ClassFile.FieldType.int)).before args0 about1 = true := code_word (m := ⟨18, 1⟩) (meth := k18m1) (c := k18c1) (by decide +kernel) rfl rfl rfl (by decide +kernel)
set_option maxRecDepth 65536 in
theorem w_c22 : (Jvm.Cond.code ({ cls := "java/util/ArrayList", name := "size", desc := "()I" } : Jvm.MethodName) jdk_38_method_8_code (1 : Nat) (Option.some Jvm.ClassFile.FieldType.int)).before args0 about1 = true := code_word (m := ⟨16, 4⟩) (meth := k16m4) (c := k16c4) (by decide +kernel) rfl rfl rfl (by decide +kernel)
set_option maxRecDepth 65536 in
theorem w_c23 : (Jvm.Cond.code ({ cls := "java/util/ArrayList", name := "<init>", desc := "(I)V" } : Jvm.MethodName) jdk_38_method_1_code (2 : Nat) (Option.none : Option Jvm.ClassFile.FieldType)).before args0 about1 = true := code_word (m := ⟨16, 0⟩) (meth := k16m0) (c := k16c0) (by decide +kernel) rfl rfl rfl (by decide +kernel)
set_option maxRecDepth 65536 in
theorem w_c24 : (Jvm.Cond.code ({ cls := "java/util/ArrayList", name := "iterator", desc := "()Ljava/util/Iterator;" } : Jvm.MethodName) jdk_38_method_55_code (1 : Nat) (Option.some (Jvm.ClassFile.FieldType.object "java/util/Iterator"))).before args0 about1 = true := code_word (m := ⟨16, 9⟩) (meth := k16m9) (c := k16c9) (by decide +kernel) rfl rfl rfl (by decide +kernel)
set_option maxRecDepth 65536 in
theorem w_c25 : (Jvm.Cond.code ({ cls := "java/util/ArrayList$Itr", name := "<init>", desc := "(Ljava/util/ArrayList;)V" } : Jvm.MethodName) jdk_49_method_1_code (2 : Nat) (Option.none : Option Jvm.ClassFile.FieldType)).before args0 about1 = true := code_word (m := ⟨26, 0⟩) (meth := k26m0) (c := k26c0) (by decide +kernel) rfl rfl rfl (by decide +kernel)
set_option maxRecDepth 65536 in
theorem w_c26 : (Jvm.Cond.code ({ cls := "java/util/ArrayList$Itr", name := "hasNext", desc := "()Z" } : Jvm.MethodName) jdk_49_method_2_code (1 : Nat) (Option.some Jvm.ClassFile.FieldType.boolean)).before args0 about1 = true := code_word (m := ⟨26, 1⟩) (meth := k26m1) (c := k26c1) (by decide +kernel) rfl rfl rfl (by decide +kernel)
set_option maxRecDepth 65536 in
theorem w_c27 : (Jvm.Cond.code ({ cls := "java/util/ArrayList$Itr", name := "next", desc := "()Ljava/lang/Object;" } : Jvm.MethodName) jdk_49_method_3_code (3 : Nat) (Option.some (Jvm.ClassFile.FieldType.object "java/lang/Object"))).before args0 about1 = true := code_word (m := ⟨26, 2⟩) (meth := k26m2) (c := k26c2) (by decide +kernel) rfl rfl rfl (by decide +kernel)
set_option maxRecDepth 65536 in
theorem w_c28 : (Jvm.Cond.code ({ cls := "java/util/ArrayList$Itr", name := "checkForComodification", desc := "()V" } : Jvm.MethodName) jdk_49_method_6_code (1 : Nat) (Option.none : Option Jvm.ClassFile.FieldType)).before args0 about1 = true := code_word (m := ⟨26, 3⟩) (meth := k26m3) (c := k26c3) (by decide +kernel) rfl rfl rfl (by decide +kernel)
set_option maxRecDepth 65536 in
theorem w_c29 : (Jvm.Cond.code ({ cls := "java/util/ArrayList", name := "get", desc := "(I)Ljava/lang/Object;" } : Jvm.MethodName) jdk_38_method_20_code (2 : Nat) (Option.some (Jvm.ClassFile.FieldType.object "java/lang/Object"))).before args0 about1 = true := code_word (m := ⟨16, 6⟩) (meth := k16m6) (c := k16c6) (by decide +kernel) rfl rfl rfl (by decide +kernel)
set_option maxRecDepth 65536 in
theorem w_c30 : (Jvm.Cond.code ({ cls := "java/util/Objects", name := "checkIndex", desc := "(II)I" } : Jvm.MethodName) jdk_31_method_17_code (2 : Nat) (Option.some Jvm.ClassFile.FieldType.int)).before args0 about1 = true := code_word (m := ⟨27, 1⟩) (meth := k27m1) (c := k27c1) (by decide +kernel) rfl rfl rfl (by decide +kernel)
set_option maxRecDepth 65536 in
theorem w_c31 : (Jvm.Cond.code ({ cls := "jdk/internal/util/Preconditions", name := "checkIndex", desc := "(IILjava/util/function/BiFunction;)I" } : Jvm.MethodName) jdk_41_method_11_code (3 : Nat) (Option.some Jvm.ClassFile.FieldType.int)).before args0 about1 = true := code_word (m := ⟨28, 1⟩) (meth := k28m1) (c := k28c1) (by decide +kernel) rfl rfl rfl (by decide +kernel)
set_option maxRecDepth 65536 in
theorem w_c32 : (Jvm.Cond.code ({ cls := "java/util/ArrayList", name := "elementData", desc := "(I)Ljava/lang/Object;" } : Jvm.MethodName) jdk_38_method_18_code (2 : Nat) (Option.some (Jvm.ClassFile.FieldType.object "java/lang/Object"))).before args0 about1 = true := code_word (m := ⟨16, 5⟩) (meth := k16m5) (c := k16c5) (by decide +kernel) rfl rfl rfl (by decide +kernel)
set_option maxRecDepth 65536 in
theorem w_c33 : (Jvm.Cond.code ({ cls := "com/example/recordweave/recordweave/store/KeyIndex", name := "hold", desc := "(III)V" } : Jvm.MethodName) prog_1_method_5_code (5 : Nat) (Option.none : Option Jvm.ClassFile.FieldType)).before args0 about1 = true := code_word (m := ⟨18, 4⟩) (meth := k18m4) (c := k18c4) (by decide +kernel) rfl rfl rfl (by decide +kernel)
set_option maxRecDepth 65536 in
theorem w_c34 : (Jvm.Cond.code ({ cls := "com/example/recordweave/recordweave/store/KeyIndex", name := "place", desc := "(I)V" } : Jvm.MethodName) prog_1_method_6_code (4 : Nat) (Option.none : Option Jvm.ClassFile.FieldType)).before args0 about1 = true := code_word (m := ⟨18, 5⟩) (meth := k18m5) (c := k18c5) (by decide +kernel) rfl rfl rfl (by decide +kernel)
set_option maxRecDepth 65536 in
theorem w_c35 : (Jvm.Cond.code ({ cls := "java/util/Arrays", name := "equals", desc := "([BII[BII)Z" } : Jvm.MethodName) jdk_65_method_90_code (8 : Nat) (Option.some Jvm.ClassFile.FieldType.boolean)).before args0 about1 = true := code_word (m := ⟨30, 2⟩) (meth := k30m2) (c := k30c2) (by decide +kernel) rfl rfl rfl (by decide +kernel)
set_option maxRecDepth 65536 in
theorem w_c36 : (Jvm.Cond.code ({ cls := "java/util/Arrays", name := "rangeCheck", desc := "(III)V" } : Jvm.MethodName) jdk_65_method_30_code (3 : Nat) (Option.none : Option Jvm.ClassFile.FieldType)).before args0 about1 = true := code_word (m := ⟨30, 1⟩) (meth := k30m1) (c := k30c1) (by decide +kernel) rfl rfl rfl (by decide +kernel)
set_option maxRecDepth 65536 in
theorem w_c37 : (Jvm.Cond.code ({ cls := "jdk/internal/util/ArraysSupport", name := "mismatch", desc := "([BI[BII)I" } : Jvm.MethodName) jdk_48_method_14_code (8 : Nat) (Option.some Jvm.ClassFile.FieldType.int)).before args0 about1 = true := code_word (m := ⟨31, 1⟩) (meth := k31m1) (c := k31c1) (by decide +kernel) rfl rfl rfl (by decide +kernel)
set_option maxRecDepth 65536 in
theorem w_c38 : (Jvm.Cond.code ({ cls := "java/lang/String", name := "equals", desc := "(Ljava/lang/Object;)Z" } : Jvm.MethodName) jdk_42_method_66_code (3 : Nat) (Option.some Jvm.ClassFile.FieldType.boolean)).before args0 about1 = true := code_word (m := ⟨7, 5⟩) (meth := k7m5) (c := k7c5) (by decide +kernel) rfl rfl rfl (by decide +kernel)
set_option maxRecDepth 65536 in
theorem w_c39 : (Jvm.Cond.code ({ cls := "java/lang/String", name := "<init>", desc := "([C)V" } : Jvm.MethodName) jdk_42_method_3_code (2 : Nat) (Option.none : Option Jvm.ClassFile.FieldType)).before args0 about1 = true := code_word (m := ⟨7, 1⟩) (meth := k7m1) (c := k7c1) (by decide +kernel) rfl rfl rfl (by decide +kernel)
set_option maxRecDepth 65536 in
theorem w_c40 : (Jvm.Cond.code ({ cls := "java/lang/String", name := "<init>", desc := "([CIILjava/lang/Void;)V" } : Jvm.MethodName) jdk_42_method_149_code (6 : Nat) (Option.none : Option Jvm.ClassFile.FieldType)).before args0 about1 = true := code_word (m := ⟨7, 7⟩) (meth := k7m7) (c := k7c7) (by decide +kernel) rfl rfl rfl (by decide +kernel)
set_option maxRecDepth 65536 in
theorem w_c41 : (Jvm.Cond.code ({ cls := "java/lang/StringUTF16", name := "compress", desc := "([CII)[B" } : Jvm.MethodName) jdk_52_method_16_code (6 : Nat) (Option.some (Jvm.ClassFile.FieldType.array Jvm.ClassFile.FieldType.byte))).before args0 about1 = true := code_word (m := ⟨32, 4⟩) (meth := k32m4) (c := k32c4) (by decide +kernel) rfl rfl rfl (by decide +kernel)
set_option maxRecDepth 65536 in
theorem w_c42 : (Jvm.Cond.code ({ cls := "java/lang/StringUTF16", name := "compress", desc := "([CI[BII)I" } : Jvm.MethodName) jdk_52_method_21_code (7 : Nat) (Option.some Jvm.ClassFile.FieldType.int)).before args0 about1 = true := code_word (m := ⟨32, 5⟩) (meth := k32m5) (c := k32c5) (by decide +kernel) rfl rfl rfl (by decide +kernel)
set_option maxRecDepth 65536 in
theorem w_c43 : (Jvm.Cond.code ({ cls := "java/lang/StringUTF16", name := "coderFromArrayLen", desc := "([BI)B" } : Jvm.MethodName) jdk_52_method_15_code (2 : Nat) (Option.some Jvm.ClassFile.FieldType.byte)).before args0 about1 = true := code_word (m := ⟨32, 3⟩) (meth := k32m3) (c := k32c3) (by decide +kernel) rfl rfl rfl (by decide +kernel)
set_option maxRecDepth 65536 in
theorem w_c44 : (Jvm.Cond.code ({ cls := "java/lang/String", name := "valueOf", desc := "(C)Ljava/lang/String;" } : Jvm.MethodName) jdk_42_method_139_code (1 : Nat) (Option.some (Jvm.ClassFile.FieldType.object "java/lang/String"))).before args0 about1 = true := code_word (m := ⟨7, 6⟩) (meth := k7m6) (c := k7c6) (by decide +kernel) rfl rfl rfl (by decide +kernel)
set_option maxRecDepth 65536 in
theorem w_c45 : (Jvm.Cond.code ({ cls := "java/lang/StringLatin1", name := "canEncode", desc := "(C)Z" } : Jvm.MethodName) jdk_43_method_3_code (1 : Nat) (Option.some Jvm.ClassFile.FieldType.boolean)).before args0 about1 = true := code_word (m := ⟨33, 1⟩) (meth := k33m1) (c := k33c1) (by decide +kernel) rfl rfl rfl (by decide +kernel)
set_option maxRecDepth 65536 in
theorem w_c46 : (Jvm.Cond.code ({ cls := "java/lang/StringLatin1", name := "toBytes", desc := "(C)[B" } : Jvm.MethodName) jdk_43_method_46_code (1 : Nat) (Option.some (Jvm.ClassFile.FieldType.array Jvm.ClassFile.FieldType.byte))).before args0 about1 = true := code_word (m := ⟨33, 3⟩) (meth := k33m3) (c := k33c3) (by decide +kernel) rfl rfl rfl (by decide +kernel)
set_option maxRecDepth 65536 in
theorem w_c47 : (Jvm.Cond.code ({ cls := "java/lang/String", name := "<init>", desc := "([BB)V" } : Jvm.MethodName) jdk_42_method_151_code (3 : Nat) (Option.none : Option Jvm.ClassFile.FieldType)).before args0 about1 = true := code_word (m := ⟨7, 8⟩) (meth := k7m8) (c := k7c8) (by decide +kernel) rfl rfl rfl (by decide +kernel)
set_option maxRecDepth 65536 in
theorem w_c48 : (Jvm.Cond.code ({ cls := "java/lang/StringUTF16", name := "newBytesFor", desc := "(I)[B" } : Jvm.MethodName) jdk_52_method_2_code (1 : Nat) (Option.some (Jvm.ClassFile.FieldType.array Jvm.ClassFile.FieldType.byte))).before args0 about1 = true := code_word (m := ⟨32, 1⟩) (meth := k32m1) (c := k32c1) (by decide +kernel) rfl rfl rfl (by decide +kernel)
set_option maxRecDepth 65536 in
theorem w_c49 : (Jvm.Cond.code ({ cls := "java/lang/StringUTF16", name := "newBytesLength", desc := "(I)I" } : Jvm.MethodName) jdk_52_method_3_code (1 : Nat) (Option.some Jvm.ClassFile.FieldType.int)).before args0 about1 = true := code_word (m := ⟨32, 2⟩) (meth := k32m2) (c := k32c2) (by decide +kernel) rfl rfl rfl (by decide +kernel)
set_option maxRecDepth 65536 in
theorem w_c50 : (Jvm.Cond.code ({ cls := "java/util/Arrays", name := "copyOf", desc := "([BI)[B" } : Jvm.MethodName) jdk_65_method_121_code (3 : Nat) (Option.some (Jvm.ClassFile.FieldType.array Jvm.ClassFile.FieldType.byte))).before args0 about1 = true := code_word (m := ⟨30, 3⟩) (meth := k30m3) (c := k30c3) (by decide +kernel) rfl rfl rfl (by decide +kernel)
set_option maxRecDepth 65536 in
theorem w_c51 : (Jvm.Cond.code ({ cls := "java/lang/Math", name := "min", desc := "(II)I" } : Jvm.MethodName) jdk_29_method_69_code (2 : Nat) (Option.some Jvm.ClassFile.FieldType.int)).before args0 about1 = true := code_word (m := ⟨17, 2⟩) (meth := k17m2) (c := k17c2) (by decide +kernel) rfl rfl rfl (by decide +kernel)
set_option maxRecDepth 65536 in
theorem w_c52 : (Jvm.Cond.code ({ cls := "java/lang/StringLatin1", name := "equals", desc := "([B[B)Z" } : Jvm.MethodName) jdk_43_method_13_code (3 : Nat) (Option.some Jvm.ClassFile.FieldType.boolean)).before args0 about1 = true := code_word (m := ⟨33, 2⟩) (meth := k33m2) (c := k33c2) (by decide +kernel) rfl rfl rfl (by decide +kernel)
def codes1 : List Jvm.Cond := [Jvm.Cond.code x code maxLocals ret, Jvm.Cond.code ({ cls := "com/example/recordweave/recordweave/store/KeyIndexFileOfPinLaw", name := "key", desc := "(I)Ljava/lang/String;" } : Jvm.MethodName) method_2_code (5 : Nat) (Option.some (Jvm.ClassFile.FieldType.object "java/lang/String")), Jvm.Cond.code ({ cls := "java/util/ArrayList", name := "<init>", desc := "()V" } : Jvm.MethodName) jdk_38_method_2_code (1 : Nat) (Option.none : Option Jvm.ClassFile.FieldType), Jvm.Cond.code ({ cls := "java/util/AbstractList", name := "<init>", desc := "()V" } : Jvm.MethodName) jdk_39_method_1_code (1 : Nat) (Option.none : Option Jvm.ClassFile.FieldType), Jvm.Cond.code ({ cls := "java/util/AbstractCollection", name := "<init>", desc := "()V" } : Jvm.MethodName) jdk_22_method_1_code (1 : Nat) (Option.none : Option Jvm.ClassFile.FieldType), Jvm.Cond.code ({ cls := "java/lang/Object", name := "<init>", desc := "()V" } : Jvm.MethodName) object_method_1_code (1 : Nat) (Option.none : Option Jvm.ClassFile.FieldType), Jvm.Cond.code ({ cls := "java/util/ArrayList", name := "add", desc := "(Ljava/lang/Object;)Z" } : Jvm.MethodName) jdk_38_method_25_code (2 : Nat) (Option.some Jvm.ClassFile.FieldType.boolean), Jvm.Cond.code ({ cls := "java/util/ArrayList", name := "add", desc := "(Ljava/lang/Object;[Ljava/lang/Object;I)V" } : Jvm.MethodName) jdk_38_method_24_code (4 : Nat) (Option.none : Option Jvm.ClassFile.FieldType), Jvm.Cond.code ({ cls := "java/util/ArrayList", name := "grow", desc := "()[Ljava/lang/Object;" } : Jvm.MethodName) jdk_38_method_7_code (1 : Nat) (Option.some (Jvm.ClassFile.FieldType.array (Jvm.ClassFile.FieldType.object "java/lang/Object"))), Jvm.Cond.code ({ cls := "java/util/ArrayList", name := "grow", desc := "(I)[Ljava/lang/Object;" } : Jvm.MethodName) jdk_38_method_6_code (4 : Nat) (Option.some (Jvm.ClassFile.FieldType.array (Jvm.ClassFile.FieldType.object "java/lang/Object"))), Jvm.Cond.code ({ cls := "java/lang/Math", name := "max", desc := "(II)I" } : Jvm.MethodName) jdk_29_method_65_code (2 : Nat) (Option.some Jvm.ClassFile.FieldType.int), Jvm.Cond.code ({ cls := "com/example/recordweave/recordweave/store/KeyIndex", name := "<init>", desc := "()V" } : Jvm.MethodName) prog_1_method_1_code (1 : Nat) (Option.none : Option Jvm.ClassFile.FieldType), Jvm.Cond.code ({ cls := "com/example/recordweave/recordweave/store/KeyIndex", name := "fileOf", desc := "(Ljava/lang/String;)I" } : Jvm.MethodName) prog_1_method_3_code (4 : Nat) (Option.some Jvm.ClassFile.FieldType.int), Jvm.Cond.code ({ cls := "java/lang/String", name := "getBytes", desc := "(Ljava/nio/charset/Charset;)[B" } : Jvm.MethodName) jdk_42_method_64_code (2 : Nat) (Option.some (Jvm.ClassFile.FieldType.array Jvm.ClassFile.FieldType.byte)), Jvm.Cond.code ({ cls := "java/lang/String", name := "coder", desc := "()B" } : Jvm.MethodName) jdk_42_method_152_code (1 : Nat) (Option.some Jvm.ClassFile.FieldType.byte), Jvm.Cond.code ({ cls := "java/lang/String", name := "encode", desc := "(Ljava/nio/charset/Charset;B[B)[B" } : Jvm.MethodName) jdk_42_method_18_code (3 : Nat) (Option.some (Jvm.ClassFile.FieldType.array Jvm.ClassFile.FieldType.byte)), Jvm.Cond.code ({ cls := "java/lang/String", name := "encodeUTF8", desc := "(B[BZ)[B" } : Jvm.MethodName) jdk_42_method_46_code (9 : Nat) (Option.some (Jvm.ClassFile.FieldType.array Jvm.ClassFile.FieldType.byte)), Jvm.Cond.code ({ cls := "java/lang/StringCoding", name := "hasNegatives", desc := "([BII)Z" } : Jvm.MethodName) jdk_123_method_2_code (3 : Nat) (Option.some Jvm.ClassFile.FieldType.boolean), Jvm.Cond.code ({ cls := "java/lang/StringCoding", name := "countPositives", desc := "([BII)I" } : Jvm.MethodName) jdk_123_method_3_code (5 : Nat) (Option.some Jvm.ClassFile.FieldType.int), Jvm.Cond.code ({ cls := "com/example/recordweave/recordweave/store/KeyIndex", name := "find", desc := "([BII)I" } : Jvm.MethodName) prog_1_method_4_code (8 : Nat) (Option.some Jvm.ClassFile.FieldType.int), Jvm.Cond.code ({ cls := "com/example/recordweave/recordweave/store/KeyIndex", name := "hash", desc := "([BII)I" } : Jvm.MethodName) prog_1_method_7_code (5 : Nat) (Option.some Jvm.ClassFile.FieldType.int), Jvm.Cond.code ({ cls := "com/example/recordweave/recordweave/store/KeyIndex", name := "add", desc := "(Ljava/util/List;)I" } : Jvm.MethodName) prog_1_method_2_code (10 : Nat) (Option.some Jvm.ClassFile.FieldType.int), Jvm.Cond.code ({ cls := "java/util/ArrayList", name := "size", desc := "()I" } : Jvm.MethodName) jdk_38_method_8_code (1 : Nat) (Option.some Jvm.ClassFile.FieldType.int), Jvm.Cond.code ({ cls := "java/util/ArrayList", name := "<init>", desc := "(I)V" } : Jvm.MethodName) jdk_38_method_1_code (2 : Nat) (Option.none : Option Jvm.ClassFile.FieldType), Jvm.Cond.code ({ cls := "java/util/ArrayList", name := "iterator", desc := "()Ljava/util/Iterator;" } : Jvm.MethodName) jdk_38_method_55_code (1 : Nat) (Option.some (Jvm.ClassFile.FieldType.object "java/util/Iterator")), Jvm.Cond.code ({ cls := "java/util/ArrayList$Itr", name := "<init>", desc := "(Ljava/util/ArrayList;)V" } : Jvm.MethodName) jdk_49_method_1_code (2 : Nat) (Option.none : Option Jvm.ClassFile.FieldType), Jvm.Cond.code ({ cls := "java/util/ArrayList$Itr", name := "hasNext", desc := "()Z" } : Jvm.MethodName) jdk_49_method_2_code (1 : Nat) (Option.some Jvm.ClassFile.FieldType.boolean), Jvm.Cond.code ({ cls := "java/util/ArrayList$Itr", name := "next", desc := "()Ljava/lang/Object;" } : Jvm.MethodName) jdk_49_method_3_code (3 : Nat) (Option.some (Jvm.ClassFile.FieldType.object "java/lang/Object")), Jvm.Cond.code ({ cls := "java/util/ArrayList$Itr", name := "checkForComodification", desc := "()V" } : Jvm.MethodName) jdk_49_method_6_code (1 : Nat) (Option.none : Option Jvm.ClassFile.FieldType), Jvm.Cond.code ({ cls := "java/util/ArrayList", name := "get", desc := "(I)Ljava/lang/Object;" } : Jvm.MethodName) jdk_38_method_20_code (2 : Nat) (Option.some (Jvm.ClassFile.FieldType.object "java/lang/Object")), Jvm.Cond.code ({ cls := "java/util/Objects", name := "checkIndex", desc := "(II)I" } : Jvm.MethodName) jdk_31_method_17_code (2 : Nat) (Option.some Jvm.ClassFile.FieldType.int), Jvm.Cond.code ({ cls := "jdk/internal/util/Preconditions", name := "checkIndex", desc := "(IILjava/util/function/BiFunction;)I" } : Jvm.MethodName) jdk_41_method_11_code (3 : Nat) (Option.some Jvm.ClassFile.FieldType.int), Jvm.Cond.code ({ cls := "java/util/ArrayList", name := "elementData", desc := "(I)Ljava/lang/Object;" } : Jvm.MethodName) jdk_38_method_18_code (2 : Nat) (Option.some (Jvm.ClassFile.FieldType.object "java/lang/Object")), Jvm.Cond.code ({ cls := "com/example/recordweave/recordweave/store/KeyIndex", name := "hold", desc := "(III)V" } : Jvm.MethodName) prog_1_method_5_code (5 : Nat) (Option.none : Option Jvm.ClassFile.FieldType), Jvm.Cond.code ({ cls := "com/example/recordweave/recordweave/store/KeyIndex", name := "place", desc := "(I)V" } : Jvm.MethodName) prog_1_method_6_code (4 : Nat) (Option.none : Option Jvm.ClassFile.FieldType), Jvm.Cond.code ({ cls := "java/util/Arrays", name := "equals", desc := "([BII[BII)Z" } : Jvm.MethodName) jdk_65_method_90_code (8 : Nat) (Option.some Jvm.ClassFile.FieldType.boolean), Jvm.Cond.code ({ cls := "java/util/Arrays", name := "rangeCheck", desc := "(III)V" } : Jvm.MethodName) jdk_65_method_30_code (3 : Nat) (Option.none : Option Jvm.ClassFile.FieldType), Jvm.Cond.code ({ cls := "jdk/internal/util/ArraysSupport", name := "mismatch", desc := "([BI[BII)I" } : Jvm.MethodName) jdk_48_method_14_code (8 : Nat) (Option.some Jvm.ClassFile.FieldType.int), Jvm.Cond.code ({ cls := "java/lang/String", name := "equals", desc := "(Ljava/lang/Object;)Z" } : Jvm.MethodName) jdk_42_method_66_code (3 : Nat) (Option.some Jvm.ClassFile.FieldType.boolean), Jvm.Cond.code ({ cls := "java/lang/String", name := "<init>", desc := "([C)V" } : Jvm.MethodName) jdk_42_method_3_code (2 : Nat) (Option.none : Option Jvm.ClassFile.FieldType), Jvm.Cond.code ({ cls := "java/lang/String", name := "<init>", desc := "([CIILjava/lang/Void;)V" } : Jvm.MethodName) jdk_42_method_149_code (6 : Nat) (Option.none : Option Jvm.ClassFile.FieldType), Jvm.Cond.code ({ cls := "java/lang/StringUTF16", name := "compress", desc := "([CII)[B" } : Jvm.MethodName) jdk_52_method_16_code (6 : Nat) (Option.some (Jvm.ClassFile.FieldType.array Jvm.ClassFile.FieldType.byte)), Jvm.Cond.code ({ cls := "java/lang/StringUTF16", name := "compress", desc := "([CI[BII)I" } : Jvm.MethodName) jdk_52_method_21_code (7 : Nat) (Option.some Jvm.ClassFile.FieldType.int), Jvm.Cond.code ({ cls := "java/lang/StringUTF16", name := "coderFromArrayLen", desc := "([BI)B" } : Jvm.MethodName) jdk_52_method_15_code (2 : Nat) (Option.some Jvm.ClassFile.FieldType.byte), Jvm.Cond.code ({ cls := "java/lang/String", name := "valueOf", desc := "(C)Ljava/lang/String;" } : Jvm.MethodName) jdk_42_method_139_code (1 : Nat) (Option.some (Jvm.ClassFile.FieldType.object "java/lang/String")), Jvm.Cond.code ({ cls := "java/lang/StringLatin1", name := "canEncode", desc := "(C)Z" } : Jvm.MethodName) jdk_43_method_3_code (1 : Nat) (Option.some Jvm.ClassFile.FieldType.boolean), Jvm.Cond.code ({ cls := "java/lang/StringLatin1", name := "toBytes", desc := "(C)[B" } : Jvm.MethodName) jdk_43_method_46_code (1 : Nat) (Option.some (Jvm.ClassFile.FieldType.array Jvm.ClassFile.FieldType.byte)), Jvm.Cond.code ({ cls := "java/lang/String", name := "<init>", desc := "([BB)V" } : Jvm.MethodName) jdk_42_method_151_code (3 : Nat) (Option.none : Option Jvm.ClassFile.FieldType), Jvm.Cond.code ({ cls := "java/lang/StringUTF16", name := "newBytesFor", desc := "(I)[B" } : Jvm.MethodName) jdk_52_method_2_code (1 : Nat) (Option.some (Jvm.ClassFile.FieldType.array Jvm.ClassFile.FieldType.byte)), Jvm.Cond.code ({ cls := "java/lang/StringUTF16", name := "newBytesLength", desc := "(I)I" } : Jvm.MethodName) jdk_52_method_3_code (1 : Nat) (Option.some Jvm.ClassFile.FieldType.int), Jvm.Cond.code ({ cls := "java/util/Arrays", name := "copyOf", desc := "([BI)[B" } : Jvm.MethodName) jdk_65_method_121_code (3 : Nat) (Option.some (Jvm.ClassFile.FieldType.array Jvm.ClassFile.FieldType.byte)), Jvm.Cond.code ({ cls := "java/lang/Math", name := "min", desc := "(II)I" } : Jvm.MethodName) jdk_29_method_69_code (2 : Nat) (Option.some Jvm.ClassFile.FieldType.int), Jvm.Cond.code ({ cls := "java/lang/StringLatin1", name := "equals", desc := "([B[B)Z" } : Jvm.MethodName) jdk_43_method_13_code (3 : Nat) (Option.some Jvm.ClassFile.FieldType.boolean)]
set_option maxRecDepth 65536 in
theorem codes_eq : words1.filter isCode = codes1 := rfl
theorem w_codes : ∀ c ∈ words1.filter isCode, c.before args0 about1 = true := by
  rw [codes_eq]
  intro c hc
  simp only [codes1, List.mem_cons, List.not_mem_nil, or_false] at hc
  rcases hc with rfl | rfl | rfl | rfl | rfl | rfl | rfl | rfl | rfl | rfl | rfl | rfl | rfl | rfl | rfl | rfl | rfl | rfl | rfl | rfl | rfl | rfl | rfl | rfl | rfl | rfl | rfl | rfl | rfl | rfl | rfl | rfl | rfl | rfl | rfl | rfl | rfl | rfl | rfl | rfl | rfl | rfl | rfl | rfl | rfl | rfl | rfl | rfl | rfl | rfl | rfl | rfl | rfl
  · exact w_c0
  · exact w_c1
  · exact w_c2
  · exact w_c3
  · exact w_c4
  · exact w_c5
  · exact w_c6
  · exact w_c7
  · exact w_c8
  · exact w_c9
  · exact w_c10
  · exact w_c11
  · exact w_c12
  · exact w_c13
  · exact w_c14
  · exact w_c15
  · exact w_c16
  · exact w_c17
  · exact w_c18
  · exact w_c19
  · exact w_c20
  · exact w_c21
  · exact w_c22
  · exact w_c23
  · exact w_c24
  · exact w_c25
  · exact w_c26
  · exact w_c27
  · exact w_c28
  · exact w_c29
  · exact w_c30
  · exact w_c31
  · exact w_c32
  · exact w_c33
  · exact w_c34
  · exact w_c35
  · exact w_c36
  · exact w_c37
  · exact w_c38
  · exact w_c39
  · exact w_c40
  · exact w_c41
  · exact w_c42
  · exact w_c43
  · exact w_c44
  · exact w_c45
  · exact w_c46
  · exact w_c47
  · exact w_c48
  · exact w_c49
  · exact w_c50
  · exact w_c51
  · exact w_c52
set_option maxRecDepth 65536 in
theorem w_t1 : (words1.take 24).all (fun c => isCode c || c.before args0 about1) = true := by decide +kernel
set_option maxRecDepth 65536 in
theorem w_t2 : ((words1.drop 24).take 24).all (fun c => isCode c || c.before args0 about1) = true := by decide +kernel
set_option maxRecDepth 65536 in
theorem w_t3 : (((words1.drop 24).drop 24).take 24).all (fun c => isCode c || c.before args0 about1) = true := by decide +kernel
set_option maxRecDepth 65536 in
theorem w_t4 : ((((words1.drop 24).drop 24).drop 24).take 24).all (fun c => isCode c || c.before args0 about1) = true := by decide +kernel
set_option maxRecDepth 65536 in
theorem w_t5 : (((((words1.drop 24).drop 24).drop 24).drop 24).take 24).all (fun c => isCode c || c.before args0 about1) = true := by decide +kernel
set_option maxRecDepth 65536 in
theorem w_t6 : ((((((words1.drop 24).drop 24).drop 24).drop 24).drop 24).take 24).all (fun c => isCode c || c.before args0 about1) = true := by decide +kernel
set_option maxRecDepth 65536 in
theorem w_t7 : (((((((words1.drop 24).drop 24).drop 24).drop 24).drop 24).drop 24).take 24).all (fun c => isCode c || c.before args0 about1) = true := by decide +kernel
set_option maxRecDepth 65536 in
theorem w_t8 : ((((((((words1.drop 24).drop 24).drop 24).drop 24).drop 24).drop 24).drop 24).take 24).all (fun c => isCode c || c.before args0 about1) = true := by decide +kernel
set_option maxRecDepth 65536 in
theorem w_t9 : (((((((((words1.drop 24).drop 24).drop 24).drop 24).drop 24).drop 24).drop 24).drop 24).take 24).all (fun c => isCode c || c.before args0 about1) = true := by decide +kernel
set_option maxRecDepth 65536 in
theorem w_t10 : ((((((((((words1.drop 24).drop 24).drop 24).drop 24).drop 24).drop 24).drop 24).drop 24).drop 24).take 24).all (fun c => isCode c || c.before args0 about1) = true := by decide +kernel
set_option maxRecDepth 65536 in
theorem w_t11 : (((((((((((words1.drop 24).drop 24).drop 24).drop 24).drop 24).drop 24).drop 24).drop 24).drop 24).drop 24).take 24).all (fun c => isCode c || c.before args0 about1) = true := by decide +kernel
set_option maxRecDepth 65536 in
theorem w_t12 : ((((((((((((words1.drop 24).drop 24).drop 24).drop 24).drop 24).drop 24).drop 24).drop 24).drop 24).drop 24).drop 24).take 24).all (fun c => isCode c || c.before args0 about1) = true := by decide +kernel
set_option maxRecDepth 65536 in
theorem w_t13 : (((((((((((((words1.drop 24).drop 24).drop 24).drop 24).drop 24).drop 24).drop 24).drop 24).drop 24).drop 24).drop 24).drop 24).take 24).all (fun c => isCode c || c.before args0 about1) = true := by decide +kernel
set_option maxRecDepth 65536 in
theorem w_t14 : (((((((((((((words1.drop 24).drop 24).drop 24).drop 24).drop 24).drop 24).drop 24).drop 24).drop 24).drop 24).drop 24).drop 24).drop 24).all (fun c => isCode c || c.before args0 about1) = true := by decide +kernel
theorem w_tables : (allAtoms (Jvm.Cond.code x code maxLocals ret :: tables_1)).before args0 about1 = true := by
  rw [allAtoms_all]
  show words1.all (fun c => c.before args0 about1) = true
  refine all_split ?_ w_codes
  rw [← List.take_append_drop 24 words1, List.all_append, w_t1, ← List.take_append_drop 24 (words1.drop 24), List.all_append, w_t2, ← List.take_append_drop 24 ((words1.drop 24).drop 24), List.all_append, w_t3, ← List.take_append_drop 24 (((words1.drop 24).drop 24).drop 24), List.all_append, w_t4, ← List.take_append_drop 24 ((((words1.drop 24).drop 24).drop 24).drop 24), List.all_append, w_t5, ← List.take_append_drop 24 (((((words1.drop 24).drop 24).drop 24).drop 24).drop 24), List.all_append, w_t6, ← List.take_append_drop 24 ((((((words1.drop 24).drop 24).drop 24).drop 24).drop 24).drop 24), List.all_append, w_t7, ← List.take_append_drop 24 (((((((words1.drop 24).drop 24).drop 24).drop 24).drop 24).drop 24).drop 24), List.all_append, w_t8, ← List.take_append_drop 24 ((((((((words1.drop 24).drop 24).drop 24).drop 24).drop 24).drop 24).drop 24).drop 24), List.all_append, w_t9, ← List.take_append_drop 24 (((((((((words1.drop 24).drop 24).drop 24).drop 24).drop 24).drop 24).drop 24).drop 24).drop 24), List.all_append, w_t10, ← List.take_append_drop 24 ((((((((((words1.drop 24).drop 24).drop 24).drop 24).drop 24).drop 24).drop 24).drop 24).drop 24).drop 24), List.all_append, w_t11, ← List.take_append_drop 24 (((((((((((words1.drop 24).drop 24).drop 24).drop 24).drop 24).drop 24).drop 24).drop 24).drop 24).drop 24).drop 24), List.all_append, w_t12, ← List.take_append_drop 24 ((((((((((((words1.drop 24).drop 24).drop 24).drop 24).drop 24).drop 24).drop 24).drop 24).drop 24).drop 24).drop 24).drop 24), List.all_append, w_t13, w_t14]
  rfl
set_option maxRecDepth 65536 in
theorem w_rest : rest_1_c.before args0 about1 = true := by decide +kernel
set_option maxRecDepth 65536 in
theorem w_case : (Jvm.Cond.and given_1 narrow_1).before args0 about1 = true := by decide +kernel
set_option maxRecDepth 65536 in
theorem w_consts : constsHeld consts_1 about1 := Jvm.Lit.constsHeldB_iff.mp (by decide +kernel)
theorem w_applies : (headSpec (Jvm.Cond.code x code maxLocals ret :: tables_1) room_1).applies x e0.platform about1 = true :=
  (Spec.applies_iff w_frames).mpr ⟨w_running, w_runnable, w_alone, w_named, w_hears, w_ripe, w_room, w_tables⟩
theorem atStart : AtStart classFile x code maxLocals ret World_1 tables_1 room_1 Calls_1 rest_1 Pre_1 launch0 p0 e0 about1 theMethod args0 below0 :=
  ⟨lists_1, trivial, launch0.admits_env _ _ _, launch0.least_env, fairChoices_fair.cas, fairChoices_fair.clock, w_frames, w_args, w_heap, w_applies, ⟨w_consts, trivial⟩, w_rest, w_case⟩
end start1
theorem witness_1 : WitnessClaimed_1 := ⟨start1.p0, start1.e0, start1.about1, start1.theMethod, start1.args0, start1.below0, start1.atStart⟩
end Jvm.Pilot.@@N@@
