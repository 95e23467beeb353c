import JvmDerived
import JvmDerived.Pilot.@@N@@Statement
import JvmDerived.Pilot.@@N@@Code
set_option linter.unusedVariables false
set_option linter.unusedSimpArgs false
namespace Jvm.RoadKit
open Sem ClassFile Op Lib Jvm.Stand Jvm.Free Jvm.LawKit
section New
variable {p : Program} {l : Launch} {e : Env} {R : Room} {s : State} {m : MethodId} {args : Array Value} {below : List Frame} {meth : Method} {c : Code} {T : State} {locs : List Loc} {cells slots : Nat}
theorem retI (X : Stand p l e R s m args below meth c T locs cells slots) (hx : p.tables.exec = Jvm.exec) {pc : Nat} {Ls : Array Slot} {z : Int32} {rest : List Value} (hret : meth.sig.returnType = some .int) (hd : decode c.code pc = .ok (.ireturn, 1)) {fs : List Frame}
    (hl : ∀ (f : JFrame) (acts : List Action), f.method = m → f.locked = none → f.entered = [] → (doReturn e (T.setTop f) acts (some (.int z))).1 = T.setFrames fs) : Steps p.tables e below (T.setTop (mkF m pc Ls (.int z :: rest))) (T.setFrames fs) := by
  have hm' : T.vm.method? m = some meth := X.method'
  have hn : narrow .int (.int z) = .int z := rfl
  show Steps p.tables e below (T.setTop { method := m, pc := pc, locals := Ls, stack := _ :: rest, locked := none }) _
  jvm_step X.here [X.here.top, hx, hd, hm', hret, hn]
  first | (intro acts; rw [hl _ acts rfl rfl rfl]) | rw [hl _ _ rfl rfl rfl]
  exact Steps.refl _
end New
end Jvm.RoadKit
namespace Jvm.Pilot.@@N@@
open Jvm Jvm.ClassFile Sem Op Lib Jvm.Free Jvm.Stand Jvm.LawKit Jvm.RoadKit Bundle Jvm.Pilot.@@N@@.Jvm.D
/-! ## Go: a walk as a proposition, read backwards -/
def Cx (p : Program) (s : State) (m : MethodId) (meth : Method) (c : Code) (Z : State) (own nm : String) (code : ByteArray) (ml : Nat) (ret : Option FieldType) : Prop :=
  p.tables.exec = Jvm.exec ∧ c.code = code ∧ c.maxLocals = ml ∧ s.vm.findClass own = some m.cls ∧ Z.Warmed39 s.vm ∧ meth.name = nm ∧ meth.sig.returnType = ret ∧ meth.locks = false
def Go (p : Program) (l : Launch) (e : Env) (R : Room) (s : State) (m : MethodId) (args : Array Value) (below : List Frame) (meth : Method) (c : Code) (Ph : State → Option Value → Prop) (n0 : Nat) (h : Heap) (k n : Nat) (pc : Nat) (Ls : Array Slot) (st : List Value) : Prop :=
  ∀ T locs, Stand p l e R s m args below meth c T locs k n → Fr n0 locs → T.heap = h → ∃ s₂ v, Steps p.tables e below (T.setTop (mkF m pc Ls st)) s₂ ∧ Ph s₂ v
section GoRules
variable {p : Program} {l : Launch} {e : Env} {R : Room} {s : State} {m : MethodId} {args : Array Value} {below : List Frame} {meth : Method} {c : Code} {Ph : State → Option Value → Prop} {n0 : Nat} {h : Heap} {k n : Nat} {pc q : Nat} {Ls : Array Slot} {st rest : List Value} {Z : State} {a0 : Array Value} {own nm : String} {code : ByteArray} {ml : Nat} {ret : Option FieldType}
theorem Go.pl {pc' : Nat} {Ls' : Array Slot} {st' : List Value} (H : ∀ (T target : State), At T m c below → Steps p.tables e below (T.setTop (mkF m pc' Ls' st')) target → Steps p.tables e below (T.setTop (mkF m pc Ls st)) target) (K : Go p l e R s m args below meth c Ph n0 h k n pc' Ls' st') : Go p l e R s m args below meth c Ph n0 h k n pc Ls st :=
  fun T locs X N eT => by obtain ⟨s₂, v, S, r⟩ := K T locs X N eT; exact ⟨s₂, v, H T s₂ X.here S, r⟩
theorem Go.more {k' n' : Nat} (hk : k ≤ k') (hn : n ≤ n') (K : Go p l e R s m args below meth c Ph n0 h k' n' pc Ls st) : Go p l e R s m args below meth c Ph n0 h k n pc Ls st := fun T locs X N eT => K T locs (X.loosen hk hn) N eT
theorem Go.low {n1 : Nat} (hn : n0 ≤ n1) (K : Go p l e R s m args below meth c Ph n0 h k n pc Ls st) : Go p l e R s m args below meth c Ph n1 h k n pc Ls st := fun T locs X N eT => K T locs X (fun y hy => Nat.le_trans hn (N y hy)) eT
theorem Go.join {pc' : Nat} {Ls' : Array Slot} {st' : List Value} (J : Go p l e R s m args below meth c Ph n0 h k n pc' Ls' st') (K : Go p l e R s m args below meth c Ph n0 h k n pc' Ls' st' → Go p l e R s m args below meth c Ph n0 h k n pc Ls st) : Go p l e R s m args below meth c Ph n0 h k n pc Ls st := K J
theorem Go.joinR {α : Sort _} {pc' : Nat} (P' : α → Prop) (Ls' : α → Array Slot) (st' : α → List Value) (J : ∀ r, P' r → Go p l e R s m args below meth c Ph n0 h k n pc' (Ls' r) (st' r)) (K : (∀ r, P' r → Go p l e R s m args below meth c Ph n0 h k n pc' (Ls' r) (st' r)) → Go p l e R s m args below meth c Ph n0 h k n pc Ls st) : Go p l e R s m args below meth c Ph n0 h k n pc Ls st := K J
theorem Go.cast {pc' : Nat} {Ls' : Array Slot} {st' : List Value} (e1 : pc' = pc) (e2 : Ls' = Ls) (e3 : st' = st) (K : Go p l e R s m args below meth c Ph n0 h k n pc' Ls' st') : Go p l e R s m args below meth c Ph n0 h k n pc Ls st := by subst e1 e2 e3; exact K
theorem g_iloadN (C : Cx p s m meth c Z own nm code ml ret) {i : Fin 4} {v : Int32} (d : decode code pc = .ok (.iload_n i, 1)) (hl : Ls[i.val]? = some (.val (.int v))) (hq : pc + 1 = q) (K : Go p l e R s m args below meth c Ph n0 h k n q Ls (.int v :: st)) : Go p l e R s m args below meth c Ph n0 h k n pc Ls (st) :=
  Go.pl (fun T t A S => XS.iloadN A C.1 rfl (hb C.2.1 d) hl (by subst hq; exact S)) K
theorem g_iload (C : Cx p s m meth c Z own nm code ml ret) {i : Nat} {v : Int32} (d : decode code pc = .ok (.iload i, 2)) (hl : Ls[i]? = some (.val (.int v))) (hq : pc + 2 = q) (K : Go p l e R s m args below meth c Ph n0 h k n q Ls (.int v :: st)) : Go p l e R s m args below meth c Ph n0 h k n pc Ls (st) :=
  Go.pl (fun T t A S => XS.iload A C.1 rfl (hb C.2.1 d) hl (by subst hq; exact S)) K
theorem g_istoreN (C : Cx p s m meth c Z own nm code ml ret) {i : Fin 4} {v : Int32} {L' : Array Slot} (d : decode code pc = .ok (.istore_n i, 1))  (hl : storeLocals Ls i.val (.int v) = some L') (hq : pc + 1 = q) (K : Go p l e R s m args below meth c Ph n0 h k n q L' (st)) : Go p l e R s m args below meth c Ph n0 h k n pc Ls (.int v :: st) :=
  Go.pl (fun T t A S => XS.istoreN A C.1 rfl (hb C.2.1 d) rfl hl (by subst hq; exact S)) K
theorem g_istore (C : Cx p s m meth c Z own nm code ml ret) {i : Nat} {v : Int32} {L' : Array Slot} (d : decode code pc = .ok (.istore i, 2))  (hl : storeLocals Ls i (.int v) = some L') (hq : pc + 2 = q) (K : Go p l e R s m args below meth c Ph n0 h k n q L' (st)) : Go p l e R s m args below meth c Ph n0 h k n pc Ls (.int v :: st) :=
  Go.pl (fun T t A S => XS.istore A C.1 rfl (hb C.2.1 d) rfl hl (by subst hq; exact S)) K
theorem g_lloadN (C : Cx p s m meth c Z own nm code ml ret) {i : Fin 4} {v : Int64} (d : decode code pc = .ok (.lload_n i, 1)) (hl : Ls[i.val]? = some (.val (.long v))) (hq : pc + 1 = q) (K : Go p l e R s m args below meth c Ph n0 h k n q Ls (.long v :: st)) : Go p l e R s m args below meth c Ph n0 h k n pc Ls (st) :=
  Go.pl (fun T t A S => XT.lloadN A C.1 rfl (hb C.2.1 d) hl (by subst hq; exact S)) K
theorem g_lload (C : Cx p s m meth c Z own nm code ml ret) {i : Nat} {v : Int64} (d : decode code pc = .ok (.lload i, 2)) (hl : Ls[i]? = some (.val (.long v))) (hq : pc + 2 = q) (K : Go p l e R s m args below meth c Ph n0 h k n q Ls (.long v :: st)) : Go p l e R s m args below meth c Ph n0 h k n pc Ls (st) :=
  Go.pl (fun T t A S => XT.lload A C.1 rfl (hb C.2.1 d) hl (by subst hq; exact S)) K
theorem g_lstoreN (C : Cx p s m meth c Z own nm code ml ret) {i : Fin 4} {v : Int64} {L' : Array Slot} (d : decode code pc = .ok (.lstore_n i, 1))  (hl : storeLocals Ls i.val (.long v) = some L') (hq : pc + 1 = q) (K : Go p l e R s m args below meth c Ph n0 h k n q L' (st)) : Go p l e R s m args below meth c Ph n0 h k n pc Ls (.long v :: st) :=
  Go.pl (fun T t A S => XT.lstoreN A C.1 rfl (hb C.2.1 d) rfl hl (by subst hq; exact S)) K
theorem g_lstore (C : Cx p s m meth c Z own nm code ml ret) {i : Nat} {v : Int64} {L' : Array Slot} (d : decode code pc = .ok (.lstore i, 2))  (hl : storeLocals Ls i (.long v) = some L') (hq : pc + 2 = q) (K : Go p l e R s m args below meth c Ph n0 h k n q L' (st)) : Go p l e R s m args below meth c Ph n0 h k n pc Ls (.long v :: st) :=
  Go.pl (fun T t A S => XT.lstore A C.1 rfl (hb C.2.1 d) rfl hl (by subst hq; exact S)) K
theorem g_aloadN (C : Cx p s m meth c Z own nm code ml ret) {i : Fin 4} {v : Value} (d : decode code pc = .ok (.aload_n i, 1)) (hl : Ls[i.val]? = some (.val v)) (hv : v.isRef = true) (hq : pc + 1 = q) (K : Go p l e R s m args below meth c Ph n0 h k n q Ls (v :: st)) : Go p l e R s m args below meth c Ph n0 h k n pc Ls (st) :=
  Go.pl (fun T t A S => XS.aloadN A C.1 rfl (hb C.2.1 d) hl hv (by subst hq; exact S)) K
theorem g_aload (C : Cx p s m meth c Z own nm code ml ret) {i : Nat} {v : Value} (d : decode code pc = .ok (.aload i, 2)) (hl : Ls[i]? = some (.val v)) (hv : v.isRef = true) (hq : pc + 2 = q) (K : Go p l e R s m args below meth c Ph n0 h k n q Ls (v :: st)) : Go p l e R s m args below meth c Ph n0 h k n pc Ls (st) :=
  Go.pl (fun T t A S => XS.aload A C.1 rfl (hb C.2.1 d) hl hv (by subst hq; exact S)) K
theorem g_astoreN (C : Cx p s m meth c Z own nm code ml ret) {i : Fin 4} {v : Value} {L' : Array Slot} (d : decode code pc = .ok (.astore_n i, 1))  (hv : v.isRef = true) (hl : storeLocals Ls i.val (v) = some L') (hq : pc + 1 = q) (K : Go p l e R s m args below meth c Ph n0 h k n q L' (st)) : Go p l e R s m args below meth c Ph n0 h k n pc Ls (v :: st) :=
  Go.pl (fun T t A S => XS.astoreN A C.1 rfl (hb C.2.1 d) rfl hv hl (by subst hq; exact S)) K
theorem g_astore (C : Cx p s m meth c Z own nm code ml ret) {i : Nat} {v : Value} {L' : Array Slot} (d : decode code pc = .ok (.astore i, 2))  (hv : v.isRef = true) (hl : storeLocals Ls i (v) = some L') (hq : pc + 2 = q) (K : Go p l e R s m args below meth c Ph n0 h k n q L' (st)) : Go p l e R s m args below meth c Ph n0 h k n pc Ls (v :: st) :=
  Go.pl (fun T t A S => XS.astore A C.1 rfl (hb C.2.1 d) rfl hv hl (by subst hq; exact S)) K
theorem g_iinc (C : Cx p s m meth c Z own nm code ml ret) {i : Nat} {cst : Int} {v : Int32} {L' : Array Slot} (d : decode code pc = .ok (.iinc i cst, 3)) (hl : Ls[i]? = some (.val (.int v))) (hl' : storeLocals Ls i (.int (v + Int32.ofInt cst)) = some L') (hq : pc + 3 = q) (K : Go p l e R s m args below meth c Ph n0 h k n q L' (st)) : Go p l e R s m args below meth c Ph n0 h k n pc Ls (st) :=
  Go.pl (fun T t A S => XS.iinc A C.1 rfl (hb C.2.1 d) hl hl' (by subst hq; exact S)) K
theorem g_iconst (C : Cx p s m meth c Z own nm code ml ret) {i : Int} {z : Int32} (d : decode code pc = .ok (.iconst i, 1)) (hz : Int32.ofInt i = z) (hq : pc + 1 = q) (K : Go p l e R s m args below meth c Ph n0 h k n q Ls (.int z :: st)) : Go p l e R s m args below meth c Ph n0 h k n pc Ls st :=
  Go.pl (fun T t A S => XS.iconst A C.1 rfl (hb C.2.1 d) (by subst hq hz; exact S)) K
theorem g_bipush (C : Cx p s m meth c Z own nm code ml ret) {i : Int} {z : Int32} (d : decode code pc = .ok (.bipush i, 2)) (hz : (Int8.ofInt i).toInt32 = z) (hq : pc + 2 = q) (K : Go p l e R s m args below meth c Ph n0 h k n q Ls (.int z :: st)) : Go p l e R s m args below meth c Ph n0 h k n pc Ls st :=
  Go.pl (fun T t A S => XS.bipush A C.1 rfl (hb C.2.1 d) (by subst hq hz; exact S)) K
theorem g_sipush (C : Cx p s m meth c Z own nm code ml ret) {i : Int} {z : Int32} (d : decode code pc = .ok (.sipush i, 3)) (hz : (Int16.ofInt i).toInt32 = z) (hq : pc + 3 = q) (K : Go p l e R s m args below meth c Ph n0 h k n q Ls (.int z :: st)) : Go p l e R s m args below meth c Ph n0 h k n pc Ls st :=
  Go.pl (fun T t A S => XS.sipush A C.1 rfl (hb C.2.1 d) (by subst hq hz; exact S)) K
theorem g_lconst (C : Cx p s m meth c Z own nm code ml ret) {i : Fin 2} {z : Int64} (d : decode code pc = .ok (.lconst i, 1)) (hz : Int64.ofNat i = z) (hq : pc + 1 = q) (K : Go p l e R s m args below meth c Ph n0 h k n q Ls (.long z :: st)) : Go p l e R s m args below meth c Ph n0 h k n pc Ls st :=
  Go.pl (fun T t A S => XT.lconst A C.1 rfl (hb C.2.1 d) (by subst hq hz; exact S)) K
theorem g_aconst_null (C : Cx p s m meth c Z own nm code ml ret)  (d : decode code pc = .ok (.aconst_null, 1))  (hq : pc + 1 = q) (K : Go p l e R s m args below meth c Ph n0 h k n q Ls (.null :: st)) : Go p l e R s m args below meth c Ph n0 h k n pc Ls (st) :=
  Go.pl (fun T t A S => XS.aconstNull A C.1 rfl (hb C.2.1 d)  (by subst hq; exact S)) K
theorem g_dup (C : Cx p s m meth c Z own nm code ml ret) {x : Value} (d : decode code pc = .ok (.dup, 1)) (hc : x.category = 1) (hq : pc + 1 = q) (K : Go p l e R s m args below meth c Ph n0 h k n q Ls (x :: x :: st)) : Go p l e R s m args below meth c Ph n0 h k n pc Ls (x :: st) :=
  Go.pl (fun T t A S => XS.dup A C.1 rfl (hb C.2.1 d) rfl hc (by subst hq; exact S)) K
theorem g_pop (C : Cx p s m meth c Z own nm code ml ret) {x : Value} (d : decode code pc = .ok (.pop, 1)) (hc : x.category = 1) (hq : pc + 1 = q) (K : Go p l e R s m args below meth c Ph n0 h k n q Ls (st)) : Go p l e R s m args below meth c Ph n0 h k n pc Ls (x :: st) :=
  Go.pl (fun T t A S => XT.pop A C.1 rfl (hb C.2.1 d) rfl hc (by subst hq; exact S)) K
theorem g_dup_x1 (C : Cx p s m meth c Z own nm code ml ret) {x y : Value} (d : decode code pc = .ok (.dup_x1, 1)) (hc : x.category = 1) (hc' : y.category = 1) (hq : pc + 1 = q) (K : Go p l e R s m args below meth c Ph n0 h k n q Ls (x :: y :: x :: st)) : Go p l e R s m args below meth c Ph n0 h k n pc Ls (x :: y :: st) :=
  Go.pl (fun T t A S => XT.dupX1 A C.1 rfl (hb C.2.1 d) rfl hc hc' (by subst hq; exact S)) K
theorem g_dup2 (C : Cx p s m meth c Z own nm code ml ret) {x y : Value} (d : decode code pc = .ok (.dup2, 1)) (hc : x.category = 1) (hc' : y.category = 1) (hq : pc + 1 = q) (K : Go p l e R s m args below meth c Ph n0 h k n q Ls (x :: y :: x :: y :: st)) : Go p l e R s m args below meth c Ph n0 h k n pc Ls (x :: y :: st) :=
  Go.pl (fun T t A S => XT.dup2 A C.1 rfl (hb C.2.1 d) rfl hc hc' (by subst hq; exact S)) K
theorem g_dup2L (C : Cx p s m meth c Z own nm code ml ret) {x : Int64} (d : decode code pc = .ok (.dup2, 1))  (hq : pc + 1 = q) (K : Go p l e R s m args below meth c Ph n0 h k n q Ls (.long x :: .long x :: st)) : Go p l e R s m args below meth c Ph n0 h k n pc Ls (.long x :: st) :=
  Go.pl (fun T t A S => XT.dup2L A C.1 rfl (hb C.2.1 d) rfl (by subst hq; exact S)) K
theorem g_iadd (C : Cx p s m meth c Z own nm code ml ret) {x y : Int32} (d : decode code pc = .ok (.iadd, 1))  (hq : pc + 1 = q) (K : Go p l e R s m args below meth c Ph n0 h k n q Ls (.int (x + y) :: st)) : Go p l e R s m args below meth c Ph n0 h k n pc Ls (.int y :: .int x :: st) :=
  Go.pl (fun T t A S => XS.iadd A C.1 rfl (hb C.2.1 d) rfl (by subst hq; exact S)) K
theorem g_isub (C : Cx p s m meth c Z own nm code ml ret) {x y : Int32} (d : decode code pc = .ok (.isub, 1))  (hq : pc + 1 = q) (K : Go p l e R s m args below meth c Ph n0 h k n q Ls (.int (x - y) :: st)) : Go p l e R s m args below meth c Ph n0 h k n pc Ls (.int y :: .int x :: st) :=
  Go.pl (fun T t A S => XS.isub A C.1 rfl (hb C.2.1 d) rfl (by subst hq; exact S)) K
theorem g_imul (C : Cx p s m meth c Z own nm code ml ret) {x y : Int32} (d : decode code pc = .ok (.imul, 1))  (hq : pc + 1 = q) (K : Go p l e R s m args below meth c Ph n0 h k n q Ls (.int (x * y) :: st)) : Go p l e R s m args below meth c Ph n0 h k n pc Ls (.int y :: .int x :: st) :=
  Go.pl (fun T t A S => XS.imul A C.1 rfl (hb C.2.1 d) rfl (by subst hq; exact S)) K
theorem g_iand (C : Cx p s m meth c Z own nm code ml ret) {x y : Int32} (d : decode code pc = .ok (.iand, 1))  (hq : pc + 1 = q) (K : Go p l e R s m args below meth c Ph n0 h k n q Ls (.int (x &&& y) :: st)) : Go p l e R s m args below meth c Ph n0 h k n pc Ls (.int y :: .int x :: st) :=
  Go.pl (fun T t A S => XS.iand A C.1 rfl (hb C.2.1 d) rfl (by subst hq; exact S)) K
theorem g_ior (C : Cx p s m meth c Z own nm code ml ret) {x y : Int32} (d : decode code pc = .ok (.ior, 1))  (hq : pc + 1 = q) (K : Go p l e R s m args below meth c Ph n0 h k n q Ls (.int (x ||| y) :: st)) : Go p l e R s m args below meth c Ph n0 h k n pc Ls (.int y :: .int x :: st) :=
  Go.pl (fun T t A S => XT.ior A C.1 rfl (hb C.2.1 d) rfl (by subst hq; exact S)) K
theorem g_ixor (C : Cx p s m meth c Z own nm code ml ret) {x y : Int32} (d : decode code pc = .ok (.ixor, 1))  (hq : pc + 1 = q) (K : Go p l e R s m args below meth c Ph n0 h k n q Ls (.int (x ^^^ y) :: st)) : Go p l e R s m args below meth c Ph n0 h k n pc Ls (.int y :: .int x :: st) :=
  Go.pl (fun T t A S => XT.ixor A C.1 rfl (hb C.2.1 d) rfl (by subst hq; exact S)) K
theorem g_ishl (C : Cx p s m meth c Z own nm code ml ret) {x y : Int32} (d : decode code pc = .ok (.ishl, 1))  (hq : pc + 1 = q) (K : Go p l e R s m args below meth c Ph n0 h k n q Ls (.int (x <<< (y &&& 31)) :: st)) : Go p l e R s m args below meth c Ph n0 h k n pc Ls (.int y :: .int x :: st) :=
  Go.pl (fun T t A S => XT.ishl A C.1 rfl (hb C.2.1 d) rfl (by subst hq; exact S)) K
theorem g_ishr (C : Cx p s m meth c Z own nm code ml ret) {x y : Int32} (d : decode code pc = .ok (.ishr, 1))  (hq : pc + 1 = q) (K : Go p l e R s m args below meth c Ph n0 h k n q Ls (.int (x >>> (y &&& 31)) :: st)) : Go p l e R s m args below meth c Ph n0 h k n pc Ls (.int y :: .int x :: st) :=
  Go.pl (fun T t A S => XT.ishr A C.1 rfl (hb C.2.1 d) rfl (by subst hq; exact S)) K
theorem g_iushr (C : Cx p s m meth c Z own nm code ml ret) {x y : Int32} (d : decode code pc = .ok (.iushr, 1))  (hq : pc + 1 = q) (K : Go p l e R s m args below meth c Ph n0 h k n q Ls (.int (XT.ushr x y) :: st)) : Go p l e R s m args below meth c Ph n0 h k n pc Ls (.int y :: .int x :: st) :=
  Go.pl (fun T t A S => XT.iushr A C.1 rfl (hb C.2.1 d) rfl (by subst hq; exact S)) K
theorem g_idiv (C : Cx p s m meth c Z own nm code ml ret) {x y : Int32} (d : decode code pc = .ok (.idiv, 1)) (hy : y ≠ 0) (hq : pc + 1 = q) (K : Go p l e R s m args below meth c Ph n0 h k n q Ls (.int (x / y) :: st)) : Go p l e R s m args below meth c Ph n0 h k n pc Ls (.int y :: .int x :: st) :=
  Go.pl (fun T t A S => XS.idiv A C.1 rfl (hb C.2.1 d) rfl hy (by subst hq; exact S)) K
theorem g_irem (C : Cx p s m meth c Z own nm code ml ret) {x y : Int32} (d : decode code pc = .ok (.irem, 1)) (hy : y ≠ 0) (hq : pc + 1 = q) (K : Go p l e R s m args below meth c Ph n0 h k n q Ls (.int (x % y) :: st)) : Go p l e R s m args below meth c Ph n0 h k n pc Ls (.int y :: .int x :: st) :=
  Go.pl (fun T t A S => XS.irem A C.1 rfl (hb C.2.1 d) rfl hy (by subst hq; rw [irem_eq_mod x y]; exact S)) K
theorem g_ineg (C : Cx p s m meth c Z own nm code ml ret) {x : Int32} (d : decode code pc = .ok (.ineg, 1))  (hq : pc + 1 = q) (K : Go p l e R s m args below meth c Ph n0 h k n q Ls (.int (-x) :: st)) : Go p l e R s m args below meth c Ph n0 h k n pc Ls (.int x :: st) :=
  Go.pl (fun T t A S => XS.ineg A C.1 rfl (hb C.2.1 d) rfl (by subst hq; exact S)) K
theorem g_ladd (C : Cx p s m meth c Z own nm code ml ret) {x y : Int64} (d : decode code pc = .ok (.ladd, 1))  (hq : pc + 1 = q) (K : Go p l e R s m args below meth c Ph n0 h k n q Ls (.long (x + y) :: st)) : Go p l e R s m args below meth c Ph n0 h k n pc Ls (.long y :: .long x :: st) :=
  Go.pl (fun T t A S => XT.ladd A C.1 rfl (hb C.2.1 d) rfl (by subst hq; exact S)) K
theorem g_lsub (C : Cx p s m meth c Z own nm code ml ret) {x y : Int64} (d : decode code pc = .ok (.lsub, 1))  (hq : pc + 1 = q) (K : Go p l e R s m args below meth c Ph n0 h k n q Ls (.long (x - y) :: st)) : Go p l e R s m args below meth c Ph n0 h k n pc Ls (.long y :: .long x :: st) :=
  Go.pl (fun T t A S => XT.lsub A C.1 rfl (hb C.2.1 d) rfl (by subst hq; exact S)) K
theorem g_lmul (C : Cx p s m meth c Z own nm code ml ret) {x y : Int64} (d : decode code pc = .ok (.lmul, 1))  (hq : pc + 1 = q) (K : Go p l e R s m args below meth c Ph n0 h k n q Ls (.long (x * y) :: st)) : Go p l e R s m args below meth c Ph n0 h k n pc Ls (.long y :: .long x :: st) :=
  Go.pl (fun T t A S => XT.lmul A C.1 rfl (hb C.2.1 d) rfl (by subst hq; exact S)) K
theorem g_land (C : Cx p s m meth c Z own nm code ml ret) {x y : Int64} (d : decode code pc = .ok (.land, 1))  (hq : pc + 1 = q) (K : Go p l e R s m args below meth c Ph n0 h k n q Ls (.long (x &&& y) :: st)) : Go p l e R s m args below meth c Ph n0 h k n pc Ls (.long y :: .long x :: st) :=
  Go.pl (fun T t A S => XT.land A C.1 rfl (hb C.2.1 d) rfl (by subst hq; exact S)) K
theorem g_lor (C : Cx p s m meth c Z own nm code ml ret) {x y : Int64} (d : decode code pc = .ok (.lor, 1))  (hq : pc + 1 = q) (K : Go p l e R s m args below meth c Ph n0 h k n q Ls (.long (x ||| y) :: st)) : Go p l e R s m args below meth c Ph n0 h k n pc Ls (.long y :: .long x :: st) :=
  Go.pl (fun T t A S => XT.lor A C.1 rfl (hb C.2.1 d) rfl (by subst hq; exact S)) K
theorem g_lxor (C : Cx p s m meth c Z own nm code ml ret) {x y : Int64} (d : decode code pc = .ok (.lxor, 1))  (hq : pc + 1 = q) (K : Go p l e R s m args below meth c Ph n0 h k n q Ls (.long (x ^^^ y) :: st)) : Go p l e R s m args below meth c Ph n0 h k n pc Ls (.long y :: .long x :: st) :=
  Go.pl (fun T t A S => XT.lxor A C.1 rfl (hb C.2.1 d) rfl (by subst hq; exact S)) K
theorem g_lushr (C : Cx p s m meth c Z own nm code ml ret) {x : Int64} {y : Int32} (d : decode code pc = .ok (.lushr, 1))  (hq : pc + 1 = q) (K : Go p l e R s m args below meth c Ph n0 h k n q Ls (.long (XT.ushrL x y) :: st)) : Go p l e R s m args below meth c Ph n0 h k n pc Ls (.int y :: .long x :: st) :=
  Go.pl (fun T t A S => XT.lushr A C.1 rfl (hb C.2.1 d) rfl (by subst hq; exact S)) K
theorem g_lcmp (C : Cx p s m meth c Z own nm code ml ret) {x y : Int64} (d : decode code pc = .ok (.lcmp, 1))  (hq : pc + 1 = q) (K : Go p l e R s m args below meth c Ph n0 h k n q Ls (.int (XT.cmpL x y) :: st)) : Go p l e R s m args below meth c Ph n0 h k n pc Ls (.long y :: .long x :: st) :=
  Go.pl (fun T t A S => XT.lcmp A C.1 rfl (hb C.2.1 d) rfl (by subst hq; exact S)) K
theorem g_i2l (C : Cx p s m meth c Z own nm code ml ret) {x : Int32} (d : decode code pc = .ok (.i2l, 1))  (hq : pc + 1 = q) (K : Go p l e R s m args below meth c Ph n0 h k n q Ls (.long (x.toInt64) :: st)) : Go p l e R s m args below meth c Ph n0 h k n pc Ls (.int x :: st) :=
  Go.pl (fun T t A S => XT.i2l A C.1 rfl (hb C.2.1 d) rfl (by subst hq; exact S)) K
theorem g_l2i (C : Cx p s m meth c Z own nm code ml ret) {x : Int64} (d : decode code pc = .ok (.l2i, 1))  (hq : pc + 1 = q) (K : Go p l e R s m args below meth c Ph n0 h k n q Ls (.int (x.toInt32) :: st)) : Go p l e R s m args below meth c Ph n0 h k n pc Ls (.long x :: st) :=
  Go.pl (fun T t A S => XT.l2i A C.1 rfl (hb C.2.1 d) rfl (by subst hq; exact S)) K
theorem g_i2b (C : Cx p s m meth c Z own nm code ml ret) {x : Int32} (d : decode code pc = .ok (.i2b, 1))  (hq : pc + 1 = q) (K : Go p l e R s m args below meth c Ph n0 h k n q Ls (.int (x.toInt8.toInt32) :: st)) : Go p l e R s m args below meth c Ph n0 h k n pc Ls (.int x :: st) :=
  Go.pl (fun T t A S => XT.i2b A C.1 rfl (hb C.2.1 d) rfl (by subst hq; exact S)) K
theorem g_i2c (C : Cx p s m meth c Z own nm code ml ret) {x : Int32} (d : decode code pc = .ok (.i2c, 1))  (hq : pc + 1 = q) (K : Go p l e R s m args below meth c Ph n0 h k n q Ls (.int (x.toUInt32.toUInt16.toUInt32.toInt32) :: st)) : Go p l e R s m args below meth c Ph n0 h k n pc Ls (.int x :: st) :=
  Go.pl (fun T t A S => XT.i2c A C.1 rfl (hb C.2.1 d) rfl (by subst hq; exact S)) K
theorem g_i2s (C : Cx p s m meth c Z own nm code ml ret) {x : Int32} (d : decode code pc = .ok (.i2s, 1))  (hq : pc + 1 = q) (K : Go p l e R s m args below meth c Ph n0 h k n q Ls (.int (x.toInt16.toInt32) :: st)) : Go p l e R s m args below meth c Ph n0 h k n pc Ls (.int x :: st) :=
  Go.pl (fun T t A S => XT.i2s A C.1 rfl (hb C.2.1 d) rfl (by subst hq; exact S)) K
theorem g_goto (C : Cx p s m meth c Z own nm code ml ret) {o : Int} (d : decode code pc = .ok (.goto o, 3)) (ho : 0 ≤ (pc : Int) + o) (hq : ((pc : Int) + o).toNat = q) (K : Go p l e R s m args below meth c Ph n0 h k n q Ls st) : Go p l e R s m args below meth c Ph n0 h k n pc Ls st :=
  Go.pl (fun T t A S => XS.goto A C.1 rfl rfl (hb C.2.1 d) ho hq S) K
theorem g_tswIn (C : Cx p s m meth c Z own nm code ml ret) {dflt low high : Int} {offs : Array Int} {len : Nat} {o : Int} {i : Int32} (d : decode code pc = .ok (.tableswitch dflt low high offs, len)) (hin : ¬ (i.toInt < low ∨ i.toInt > high)) (hoff : offs[(i.toInt - low).toNat]? = some o) (ho : 0 ≤ (pc : Int) + o) (hq : ((pc : Int) + o).toNat = q) (K : Go p l e R s m args below meth c Ph n0 h k n q Ls st) : Go p l e R s m args below meth c Ph n0 h k n pc Ls (.int i :: st) :=
  Go.pl (fun T t A S => XS.tswIn A C.1 rfl rfl (hb C.2.1 d) rfl hin hoff ho hq S) K
theorem g_if (C : Cx p s m meth c Z own nm code ml ret) {cd : ClassFile.Cond} {x : Int32} {o : Int} {q' : Nat} (d : decode code pc = .ok (.ifCond cd o, 3)) (ho : 0 ≤ (pc : Int) + o) (hq' : ((pc : Int) + o).toNat = q') (hq : pc + 3 = q)
    (K1 : ifCond.holds cd x = true → Go p l e R s m args below meth c Ph n0 h k n q' Ls st) (K2 : ifCond.holds cd x = false → Go p l e R s m args below meth c Ph n0 h k n q Ls st) : Go p l e R s m args below meth c Ph n0 h k n pc Ls (.int x :: st) := by
  cases hb' : ifCond.holds cd x
  · exact Go.pl (fun T t A S => XS.ifNo A C.1 rfl (hb C.2.1 d) rfl hb' (by subst hq; exact S)) (K2 hb')
  · exact Go.pl (fun T t A S => XS.ifYes A C.1 rfl rfl (hb C.2.1 d) rfl hb' ho hq' S) (K1 hb')
theorem g_icmp (C : Cx p s m meth c Z own nm code ml ret) {cd : ClassFile.Cond} {x y : Int32} {o : Int} {q' : Nat} (d : decode code pc = .ok (.if_icmp cd o, 3)) (ho : 0 ≤ (pc : Int) + o) (hq' : ((pc : Int) + o).toNat = q') (hq : pc + 3 = q)
    (K1 : if_icmp.holds cd x y = true → Go p l e R s m args below meth c Ph n0 h k n q' Ls st) (K2 : if_icmp.holds cd x y = false → Go p l e R s m args below meth c Ph n0 h k n q Ls st) : Go p l e R s m args below meth c Ph n0 h k n pc Ls (.int y :: .int x :: st) := by
  cases hb' : if_icmp.holds cd x y
  · exact Go.pl (fun T t A S => XS.icmpNo A C.1 rfl (hb C.2.1 d) rfl hb' (by subst hq; exact S)) (K2 hb')
  · exact Go.pl (fun T t A S => XS.icmpYes A C.1 rfl rfl (hb C.2.1 d) rfl hb' ho hq' S) (K1 hb')
theorem g_if_eq (C : Cx p s m meth c Z own nm code ml ret) {x : Int32} {o : Int} {q' : Nat} (d : decode code pc = .ok (.ifCond .eq o, 3)) (ho : 0 ≤ (pc : Int) + o) (hq' : ((pc : Int) + o).toNat = q') (hq : pc + 3 = q)
    (K1 : x = 0 → Go p l e R s m args below meth c Ph n0 h k n q' Ls st) (K2 : ¬ x = 0 → Go p l e R s m args below meth c Ph n0 h k n q Ls st) : Go p l e R s m args below meth c Ph n0 h k n pc Ls (.int x :: st) :=
  g_if C d ho hq' hq (fun hh => K1 (by simpa [ifCond.holds, Int32.not_lt, Int32.not_le] using hh)) (fun hh => K2 (by simpa [ifCond.holds, Int32.not_lt, Int32.not_le] using hh))
theorem g_icmp_eq (C : Cx p s m meth c Z own nm code ml ret) {x y : Int32} {o : Int} {q' : Nat} (d : decode code pc = .ok (.if_icmp .eq o, 3)) (ho : 0 ≤ (pc : Int) + o) (hq' : ((pc : Int) + o).toNat = q') (hq : pc + 3 = q)
    (K1 : x = y → Go p l e R s m args below meth c Ph n0 h k n q' Ls st) (K2 : ¬ x = y → Go p l e R s m args below meth c Ph n0 h k n q Ls st) : Go p l e R s m args below meth c Ph n0 h k n pc Ls (.int y :: .int x :: st) :=
  g_icmp C d ho hq' hq (fun hh => K1 (by simpa [if_icmp.holds, Int32.not_lt, Int32.not_le] using hh)) (fun hh => K2 (by simpa [if_icmp.holds, Int32.not_lt, Int32.not_le] using hh))
theorem g_if_ne (C : Cx p s m meth c Z own nm code ml ret) {x : Int32} {o : Int} {q' : Nat} (d : decode code pc = .ok (.ifCond .ne o, 3)) (ho : 0 ≤ (pc : Int) + o) (hq' : ((pc : Int) + o).toNat = q') (hq : pc + 3 = q)
    (K1 : ¬ x = 0 → Go p l e R s m args below meth c Ph n0 h k n q' Ls st) (K2 : x = 0 → Go p l e R s m args below meth c Ph n0 h k n q Ls st) : Go p l e R s m args below meth c Ph n0 h k n pc Ls (.int x :: st) :=
  g_if C d ho hq' hq (fun hh => K1 (by simpa [ifCond.holds, Int32.not_lt, Int32.not_le] using hh)) (fun hh => K2 (by simpa [ifCond.holds, Int32.not_lt, Int32.not_le] using hh))
theorem g_icmp_ne (C : Cx p s m meth c Z own nm code ml ret) {x y : Int32} {o : Int} {q' : Nat} (d : decode code pc = .ok (.if_icmp .ne o, 3)) (ho : 0 ≤ (pc : Int) + o) (hq' : ((pc : Int) + o).toNat = q') (hq : pc + 3 = q)
    (K1 : ¬ x = y → Go p l e R s m args below meth c Ph n0 h k n q' Ls st) (K2 : x = y → Go p l e R s m args below meth c Ph n0 h k n q Ls st) : Go p l e R s m args below meth c Ph n0 h k n pc Ls (.int y :: .int x :: st) :=
  g_icmp C d ho hq' hq (fun hh => K1 (by simpa [if_icmp.holds, Int32.not_lt, Int32.not_le] using hh)) (fun hh => K2 (by simpa [if_icmp.holds, Int32.not_lt, Int32.not_le] using hh))
theorem g_if_lt (C : Cx p s m meth c Z own nm code ml ret) {x : Int32} {o : Int} {q' : Nat} (d : decode code pc = .ok (.ifCond .lt o, 3)) (ho : 0 ≤ (pc : Int) + o) (hq' : ((pc : Int) + o).toNat = q') (hq : pc + 3 = q)
    (K1 : x < 0 → Go p l e R s m args below meth c Ph n0 h k n q' Ls st) (K2 : ¬ x < 0 → Go p l e R s m args below meth c Ph n0 h k n q Ls st) : Go p l e R s m args below meth c Ph n0 h k n pc Ls (.int x :: st) :=
  g_if C d ho hq' hq (fun hh => K1 (by simpa [ifCond.holds, Int32.not_lt, Int32.not_le] using hh)) (fun hh => K2 (by simpa [ifCond.holds, Int32.not_lt, Int32.not_le] using hh))
theorem g_icmp_lt (C : Cx p s m meth c Z own nm code ml ret) {x y : Int32} {o : Int} {q' : Nat} (d : decode code pc = .ok (.if_icmp .lt o, 3)) (ho : 0 ≤ (pc : Int) + o) (hq' : ((pc : Int) + o).toNat = q') (hq : pc + 3 = q)
    (K1 : x < y → Go p l e R s m args below meth c Ph n0 h k n q' Ls st) (K2 : ¬ x < y → Go p l e R s m args below meth c Ph n0 h k n q Ls st) : Go p l e R s m args below meth c Ph n0 h k n pc Ls (.int y :: .int x :: st) :=
  g_icmp C d ho hq' hq (fun hh => K1 (by simpa [if_icmp.holds, Int32.not_lt, Int32.not_le] using hh)) (fun hh => K2 (by simpa [if_icmp.holds, Int32.not_lt, Int32.not_le] using hh))
theorem g_if_ge (C : Cx p s m meth c Z own nm code ml ret) {x : Int32} {o : Int} {q' : Nat} (d : decode code pc = .ok (.ifCond .ge o, 3)) (ho : 0 ≤ (pc : Int) + o) (hq' : ((pc : Int) + o).toNat = q') (hq : pc + 3 = q)
    (K1 : ¬ x < 0 → Go p l e R s m args below meth c Ph n0 h k n q' Ls st) (K2 : x < 0 → Go p l e R s m args below meth c Ph n0 h k n q Ls st) : Go p l e R s m args below meth c Ph n0 h k n pc Ls (.int x :: st) :=
  g_if C d ho hq' hq (fun hh => K1 (by simpa [ifCond.holds, Int32.not_lt, Int32.not_le] using hh)) (fun hh => K2 (by simpa [ifCond.holds, Int32.not_lt, Int32.not_le] using hh))
theorem g_icmp_ge (C : Cx p s m meth c Z own nm code ml ret) {x y : Int32} {o : Int} {q' : Nat} (d : decode code pc = .ok (.if_icmp .ge o, 3)) (ho : 0 ≤ (pc : Int) + o) (hq' : ((pc : Int) + o).toNat = q') (hq : pc + 3 = q)
    (K1 : ¬ x < y → Go p l e R s m args below meth c Ph n0 h k n q' Ls st) (K2 : x < y → Go p l e R s m args below meth c Ph n0 h k n q Ls st) : Go p l e R s m args below meth c Ph n0 h k n pc Ls (.int y :: .int x :: st) :=
  g_icmp C d ho hq' hq (fun hh => K1 (by simpa [if_icmp.holds, Int32.not_lt, Int32.not_le] using hh)) (fun hh => K2 (by simpa [if_icmp.holds, Int32.not_lt, Int32.not_le] using hh))
theorem g_if_gt (C : Cx p s m meth c Z own nm code ml ret) {x : Int32} {o : Int} {q' : Nat} (d : decode code pc = .ok (.ifCond .gt o, 3)) (ho : 0 ≤ (pc : Int) + o) (hq' : ((pc : Int) + o).toNat = q') (hq : pc + 3 = q)
    (K1 : 0 < x → Go p l e R s m args below meth c Ph n0 h k n q' Ls st) (K2 : ¬ 0 < x → Go p l e R s m args below meth c Ph n0 h k n q Ls st) : Go p l e R s m args below meth c Ph n0 h k n pc Ls (.int x :: st) :=
  g_if C d ho hq' hq (fun hh => K1 (by simpa [ifCond.holds, Int32.not_lt, Int32.not_le] using hh)) (fun hh => K2 (by simpa [ifCond.holds, Int32.not_lt, Int32.not_le] using hh))
theorem g_icmp_gt (C : Cx p s m meth c Z own nm code ml ret) {x y : Int32} {o : Int} {q' : Nat} (d : decode code pc = .ok (.if_icmp .gt o, 3)) (ho : 0 ≤ (pc : Int) + o) (hq' : ((pc : Int) + o).toNat = q') (hq : pc + 3 = q)
    (K1 : y < x → Go p l e R s m args below meth c Ph n0 h k n q' Ls st) (K2 : ¬ y < x → Go p l e R s m args below meth c Ph n0 h k n q Ls st) : Go p l e R s m args below meth c Ph n0 h k n pc Ls (.int y :: .int x :: st) :=
  g_icmp C d ho hq' hq (fun hh => K1 (by simpa [if_icmp.holds, Int32.not_lt, Int32.not_le] using hh)) (fun hh => K2 (by simpa [if_icmp.holds, Int32.not_lt, Int32.not_le] using hh))
theorem g_if_le (C : Cx p s m meth c Z own nm code ml ret) {x : Int32} {o : Int} {q' : Nat} (d : decode code pc = .ok (.ifCond .le o, 3)) (ho : 0 ≤ (pc : Int) + o) (hq' : ((pc : Int) + o).toNat = q') (hq : pc + 3 = q)
    (K1 : ¬ 0 < x → Go p l e R s m args below meth c Ph n0 h k n q' Ls st) (K2 : 0 < x → Go p l e R s m args below meth c Ph n0 h k n q Ls st) : Go p l e R s m args below meth c Ph n0 h k n pc Ls (.int x :: st) :=
  g_if C d ho hq' hq (fun hh => K1 (by simpa [ifCond.holds, Int32.not_lt, Int32.not_le] using hh)) (fun hh => K2 (by simpa [ifCond.holds, Int32.not_lt, Int32.not_le] using hh))
theorem g_icmp_le (C : Cx p s m meth c Z own nm code ml ret) {x y : Int32} {o : Int} {q' : Nat} (d : decode code pc = .ok (.if_icmp .le o, 3)) (ho : 0 ≤ (pc : Int) + o) (hq' : ((pc : Int) + o).toNat = q') (hq : pc + 3 = q)
    (K1 : ¬ y < x → Go p l e R s m args below meth c Ph n0 h k n q' Ls st) (K2 : y < x → Go p l e R s m args below meth c Ph n0 h k n q Ls st) : Go p l e R s m args below meth c Ph n0 h k n pc Ls (.int y :: .int x :: st) :=
  g_icmp C d ho hq' hq (fun hh => K1 (by simpa [if_icmp.holds, Int32.not_lt, Int32.not_le] using hh)) (fun hh => K2 (by simpa [if_icmp.holds, Int32.not_lt, Int32.not_le] using hh))
theorem g_ifnullY (C : Cx p s m meth c Z own nm code ml ret) {a : Addr} {o : Int} (d : decode code pc = .ok (.ifnull o, 3)) (ho : 0 ≤ (pc : Int) + o) (hq : ((pc : Int) + o).toNat = q) (K : Go p l e R s m args below meth c Ph n0 h k n q Ls st) : Go p l e R s m args below meth c Ph n0 h k n pc Ls (.null :: st) :=
  Go.pl (fun T t A S => XS.ifnullYes A C.1 rfl rfl (hb C.2.1 d) rfl ho hq S) K
theorem g_ifnullN (C : Cx p s m meth c Z own nm code ml ret) {a : Addr} {o : Int} (d : decode code pc = .ok (.ifnull o, 3)) (hq : pc + 3 = q) (K : Go p l e R s m args below meth c Ph n0 h k n q Ls st) : Go p l e R s m args below meth c Ph n0 h k n pc Ls (.ref a :: st) :=
  Go.pl (fun T t A S => XS.ifnullNo A C.1 rfl (hb C.2.1 d) rfl (by subst hq; exact S)) K
theorem g_ifnonnullY (C : Cx p s m meth c Z own nm code ml ret) {a : Addr} {o : Int} (d : decode code pc = .ok (.ifnonnull o, 3)) (ho : 0 ≤ (pc : Int) + o) (hq : ((pc : Int) + o).toNat = q) (K : Go p l e R s m args below meth c Ph n0 h k n q Ls st) : Go p l e R s m args below meth c Ph n0 h k n pc Ls (.ref a :: st) :=
  Go.pl (fun T t A S => XT.ifnonnullYes A C.1 rfl rfl (hb C.2.1 d) rfl ho hq S) K
theorem g_ifnonnullN (C : Cx p s m meth c Z own nm code ml ret) {a : Addr} {o : Int} (d : decode code pc = .ok (.ifnonnull o, 3)) (hq : pc + 3 = q) (K : Go p l e R s m args below meth c Ph n0 h k n q Ls st) : Go p l e R s m args below meth c Ph n0 h k n pc Ls (.null :: st) :=
  Go.pl (fun T t A S => XT.ifnonnullNo A C.1 rfl (hb C.2.1 d) rfl (by subst hq; exact S)) K
theorem g_acmp_eq (C : Cx p s m meth c Z own nm code ml ret) {x y : Value} {o : Int} {q' : Nat} (d : decode code pc = .ok (.if_acmp .eq o, 3)) (hx' : x.isRef = true) (hy' : y.isRef = true) (ho : 0 ≤ (pc : Int) + o) (hq' : ((pc : Int) + o).toNat = q') (hq : pc + 3 = q)
    (K1 : x = y → Go p l e R s m args below meth c Ph n0 h k n q' Ls st) (K2 : ¬ x = y → Go p l e R s m args below meth c Ph n0 h k n q Ls st) : Go p l e R s m args below meth c Ph n0 h k n pc Ls (y :: x :: st) := by
  by_cases hh : x = y
  · exact Go.pl (fun T t A S => XT.acmpYes A C.1 rfl rfl (hb C.2.1 d) rfl hx' hy' (by simpa [XT.acmp] using hh) ho hq' S) (K1 hh)
  · exact Go.pl (fun T t A S => XT.acmpNo A C.1 rfl (hb C.2.1 d) rfl hx' hy' (by simpa [XT.acmp] using hh) (by subst hq; exact S)) (K2 (by simpa using hh))
theorem g_acmp_ne (C : Cx p s m meth c Z own nm code ml ret) {x y : Value} {o : Int} {q' : Nat} (d : decode code pc = .ok (.if_acmp .ne o, 3)) (hx' : x.isRef = true) (hy' : y.isRef = true) (ho : 0 ≤ (pc : Int) + o) (hq' : ((pc : Int) + o).toNat = q') (hq : pc + 3 = q)
    (K1 : ¬ x = y → Go p l e R s m args below meth c Ph n0 h k n q' Ls st) (K2 : x = y → Go p l e R s m args below meth c Ph n0 h k n q Ls st) : Go p l e R s m args below meth c Ph n0 h k n pc Ls (y :: x :: st) := by
  by_cases hh : ¬ x = y
  · exact Go.pl (fun T t A S => XT.acmpYes A C.1 rfl rfl (hb C.2.1 d) rfl hx' hy' (by simpa [XT.acmp] using hh) ho hq' S) (K1 hh)
  · exact Go.pl (fun T t A S => XT.acmpNo A C.1 rfl (hb C.2.1 d) rfl hx' hy' (by simpa [XT.acmp] using hh) (by subst hq; exact S)) (K2 (by simpa using hh))
theorem g_getf (C : Cx p s m meth c Z own nm code ml ret) {R0 O f d' host : String} {index : Nat} {a : Addr} {v : Value} (d : decode code pc = .ok (.getfield index, 3)) (w : (Cond.fieldLink own index R0 f d').before a0 Z = true ∨ (Cond.fieldLinkNest own index R0 f d' host).before a0 Z = true) (via : Via Z R0 O f d') (F : Fld Z h a O f d' v) (hq : pc + 3 = q)
    (K : Go p l e R s m args below meth c Ph n0 h k n q Ls (v :: st)) : Go p l e R s m args below meth c Ph n0 h k n pc Ls (.ref a :: st) := fun T locs X N eT => by
  obtain ⟨T', X', e', stp⟩ := getF X C.1 C.2.2.2.2.1 C.2.2.2.1 w via eT F (g := mkF m pc Ls (.ref a :: st)) rfl rfl (hb C.2.1 d)
  obtain ⟨s₂, v, S, r⟩ := K T' locs X' N e'
  exact ⟨s₂, v, stp _ (by subst hq; exact S), r⟩
theorem g_gets (C : Cx p s m meth c Z own nm code ml ret) {R0 O f d' host : String} {index : Nat} {v : Value} (d : decode code pc = .ok (.getstatic index, 3)) (w : (Cond.fieldLink own index R0 f d').before a0 Z = true ∨ (Cond.fieldLinkNest own index R0 f d' host).before a0 Z = true) (via : Via Z R0 O f d') (F : Sta Z h O f d' v) (hq : pc + 3 = q)
    (K : Go p l e R s m args below meth c Ph n0 h k n q Ls (v :: st)) : Go p l e R s m args below meth c Ph n0 h k n pc Ls st := fun T locs X N eT => by
  obtain ⟨T', X', e', stp⟩ := getS2 X C.1 C.2.2.2.2.1 C.2.2.2.1 w via eT F (g := mkF m pc Ls st) rfl (hb C.2.1 d)
  obtain ⟨s₂, v, S, r⟩ := K T' locs X' N e'
  exact ⟨s₂, v, stp _ (by subst hq; exact S), r⟩
theorem g_putf (C : Cx p s m meth c Z own nm code ml ret) {R0 O f d' host Cl : String} {index kk : Nat} {a : Addr} {v old : Value} {ty : FieldType} (d : decode code pc = .ok (.putfield index, 3)) (w : (Cond.fieldLink own index R0 f d').before a0 Z = true ∨ (Cond.fieldLinkNest own index R0 f d' host).before a0 Z = true) (via : Via Z R0 O f d') (F : Fld Z h a O f d' old) (E : Exa Z h a Cl)
    (L : (Cond.lays Cl O f d').before a0 Z = true ∨ ((Cond.laysFinal Cl O f d').before a0 Z = true ∧ own = O ∧ nm = "<init>")) (wi : (Cond.instantiable Cl kk).before a0 Z = true) (hty : parseFieldDescriptor d' = some ty) (hn : narrow ty v = v) (hf : fits ty v = true) (ha : n0 ≤ a) (hq : pc + 3 = q)
    (K : ∀ h', Wr h h' a (Jvm.RoadKit.slotOf Z O f d') v → Go p l e R s m args below meth c Ph n0 h' k n q Ls st) : Go p l e R s m args below meth c Ph n0 h k n pc Ls (v :: .ref a :: st) := fun T locs X N eT => by
  obtain ⟨T', h', X', e', W, stp⟩ := putF X C.1 C.2.2.2.2.1 C.2.2.2.1 w via eT F E (L.imp id fun q => ⟨q.1, q.2.1, C.2.2.2.2.2.1.trans q.2.2⟩) wi hty hn hf (g := mkF m pc Ls (v :: .ref a :: st)) rfl rfl (hb C.2.1 d)
  obtain ⟨s₂, v, S, r⟩ := K h' W T' _ X' (Fr.snoc X' N ha) e'
  exact ⟨s₂, v, stp _ (by subst hq; exact S), r⟩
theorem g_new (C : Cx p s m meth c Z own nm code ml ret) {Cl : String} {index nn : Nat} (d : decode code pc = .ok (.new index, 3)) (w : (Cond.classLink own index Cl).before a0 Z = true) (wi : (Cond.instantiable Cl nn).before a0 Z = true) (wz : (Cond.initialized Cl).before a0 Z = true) (hc : k + 1 ≤ R.cells) (hl : n + nn ≤ R.slots) (hq : pc + 3 = q)
    (K : ∀ (a : Addr) (h' : Heap), a = h.size → Ext h h' → Exa Z h' a Cl → (∀ {O f d' : String} {ty : FieldType}, Laid Z a0 Cl O f d' → parseFieldDescriptor d' = some ty → Fld Z h' a O f d' (defaultValue ty)) → Go p l e R s m args below meth c Ph n0 h' (k + 1) (n + nn) q Ls (.ref a :: st)) : Go p l e R s m args below meth c Ph n0 h k n pc Ls st := fun T locs X N eT => by
  obtain ⟨T', h', X', e', E, A, D, -, stp⟩ := newO X C.1 C.2.2.2.2.1 C.2.2.2.1 w wi wz eT (g := mkF m pc Ls st) rfl (hb C.2.1 d) hc hl
  obtain ⟨s₂, v, S, r⟩ := K _ h' rfl E A D T' locs X' N e'
  exact ⟨s₂, v, stp _ (by subst hq; exact S), r⟩
theorem g_newarray (C : Cx p s m meth c Z own nm code ml ret) {aty : ArrayType} {N' : Int32} {cap : Nat} (d : decode code pc = .ok (.newarray aty, 2)) (w : (Cond.arrayClass (newarray.typeOf aty)).before a0 Z = true) (hn : ¬ N' < 0) (hcap : N'.toNatClampNeg ≤ cap) (hbg : cap * 8 ≤ 536870912) (hc : k + 1 ≤ R.cells) (hl : n + cap ≤ R.slots) (hq : pc + 2 = q)
    (K : ∀ (a : Addr) (h' : Heap) (cA : ClassId), a = h.size → Ext h h' → Arr Z h' a (newA cA (newarray.typeOf aty) N') (newarray.typeOf aty) → Go p l e R s m args below meth c Ph n0 h' (k + 1) (n + cap) q Ls (.ref a :: st)) : Go p l e R s m args below meth c Ph n0 h k n pc Ls (.int N' :: st) := fun T locs X N eT => by
  obtain ⟨T', h', cA, X', e', E, A, stp⟩ := newP X C.1 C.2.2.2.2.1 w eT (g := mkF m pc Ls (.int N' :: st)) rfl (hb C.2.1 d) rfl hn hcap hbg hc hl
  obtain ⟨s₂, v, S, r⟩ := K _ h' cA rfl E A T' locs X' N e'
  exact ⟨s₂, v, stp _ (by subst hq; exact S), r⟩
theorem g_anewarray (C : Cx p s m meth c Z own nm code ml ret) {Cl : String} {index : Nat} {N' : Int32} {cap : Nat} (d : decode code pc = .ok (.anewarray index, 3)) (w1 : (Cond.classLink own index Cl).before a0 Z = true) (w2 : (Cond.arrayOver (.object Cl)).before a0 Z = true) (hn : ¬ N' < 0) (hcap : N'.toNatClampNeg ≤ cap) (hbg : cap * 8 ≤ 536870912) (hc : k + 1 ≤ R.cells) (hl : n + cap ≤ R.slots) (hq : pc + 3 = q)
    (K : ∀ (a : Addr) (h' : Heap) (cA : ClassId), a = h.size → Ext h h' → Arr Z h' a (newA cA (.object Cl) N') (.object Cl) → Ovr Z cA Cl → Go p l e R s m args below meth c Ph n0 h' (k + 1) (n + cap) q Ls (.ref a :: st)) : Go p l e R s m args below meth c Ph n0 h k n pc Ls (.int N' :: st) := fun T locs X N eT => by
  obtain ⟨T', h', cA, X', e', E, A, O, stp⟩ := newR X C.1 C.2.2.2.2.1 C.2.2.2.1 w1 w2 eT (g := mkF m pc Ls (.int N' :: st)) rfl (hb C.2.1 d) rfl hn hcap hbg hc hl
  obtain ⟨s₂, v, S, r⟩ := K _ h' cA rfl E A O T' locs X' N e'
  exact ⟨s₂, v, stp _ (by subst hq; exact S), r⟩
theorem g_initO (C : Cx p s m meth c Z own nm code ml ret) {idx : Nat} {a : Addr} {W : Nat} (d : decode code pc = .ok (.invokespecial idx, 3)) (w1 : (Cond.methodLink own idx Lib.objectInit).before a0 Z = true) (w2 : (Cond.instanceMethod Lib.objectInit).before a0 Z = true) (w3 : (Cond.code Lib.objectInit ⟨#[0xb1]⟩ 1 none).before a0 Z = true)
    (hsz : Ls.size = ml) (hf : 1 ≤ R.frames) (hW : (st.map fun v => v.category).sum = W) (hl : W + 12 ≤ R.locals) (hq : pc + 3 = q) (K : Go p l e R s m args below meth c Ph n0 h k n q Ls st) : Go p l e R s m args below meth c Ph n0 h k n pc Ls (.ref a :: st) := fun T locs X N eT => by
  obtain ⟨T', X', e', stp⟩ := initO X C.1 C.2.2.2.2.1 C.2.2.2.1 w1 w2 w3 eT (g := mkF m pc Ls (.ref a :: st)) rfl (hsz.trans C.2.2.1.symm) rfl (hb C.2.1 d) hf (W := W) (by show 2 * 0 + _ ≤ _; rw [hW]; omega) hl
  obtain ⟨s₂, v, S, r⟩ := K T' locs X' N e'
  exact ⟨s₂, v, stp _ (by subst hq; exact S), r⟩
theorem g_castY (C : Cx p s m meth c Z own nm code ml ret) {K' : String} {index : Nat} {a : Addr} (d : decode code pc = .ok (.checkcast index, 3)) (w : (Cond.classLink own index K').before a0 Z = true) (F : Ins Z h a K' true) (hq : pc + 3 = q) (K : Go p l e R s m args below meth c Ph n0 h k n q Ls (.ref a :: st)) : Go p l e R s m args below meth c Ph n0 h k n pc Ls (.ref a :: st) := fun T locs X N eT => by
  obtain ⟨T', X', e', stp⟩ := castY X C.1 C.2.2.2.2.1 C.2.2.2.1 w eT F (g := mkF m pc Ls (.ref a :: st)) rfl rfl (hb C.2.1 d)
  obtain ⟨s₂, v, S, r⟩ := K T' locs X' N e'
  exact ⟨s₂, v, stp _ (by subst hq; exact S), r⟩
theorem g_instY (C : Cx p s m meth c Z own nm code ml ret) {K' : String} {index : Nat} {a : Addr} (d : decode code pc = .ok (.instanceof index, 3)) (w : (Cond.classLink own index K').before a0 Z = true) (F : Ins Z h a K' true) (hq : pc + 3 = q) (K : Go p l e R s m args below meth c Ph n0 h k n q Ls (.int 1 :: st)) : Go p l e R s m args below meth c Ph n0 h k n pc Ls (.ref a :: st) := fun T locs X N eT => by
  obtain ⟨T', X', e', stp⟩ := instY X C.1 C.2.2.2.2.1 C.2.2.2.1 w eT F (g := mkF m pc Ls (.ref a :: st)) rfl rfl (hb C.2.1 d)
  obtain ⟨s₂, v, S, r⟩ := K T' locs X' N e'
  exact ⟨s₂, v, stp _ (by subst hq; exact S), r⟩
theorem g_ldcInt (C : Cx p s m meth c Z own nm code ml ret) {index : Nat} {v : Int32} (d : decode code pc = .ok (.ldc index, 2)) (w : (Cond.constant own index v).before a0 Z = true) (hq : pc + 2 = q) (K : Go p l e R s m args below meth c Ph n0 h k n q Ls (.int v :: st)) : Go p l e R s m args below meth c Ph n0 h k n pc Ls st := fun T locs X N eT => by
  obtain ⟨s₂, v', S, r⟩ := K T locs X N eT
  exact ⟨s₂, v', X.ldcInt C.1 C.2.2.2.1 (mvT C.2.2.2.2.1 w) (g := mkF m pc Ls st) rfl (hb C.2.1 d) _ (by subst hq; exact S), r⟩
theorem g_ldc2Long (C : Cx p s m meth c Z own nm code ml ret) {index : Nat} {v : Int64} (d : decode code pc = .ok (.ldc2_w index, 3)) (w : (Cond.constantLong own index v).before a0 Z = true) (hq : pc + 3 = q) (K : Go p l e R s m args below meth c Ph n0 h k n q Ls (.long v :: st)) : Go p l e R s m args below meth c Ph n0 h k n pc Ls st := fun T locs X N eT => by
  obtain ⟨s₂, v', S, r⟩ := K T locs X N eT
  exact ⟨s₂, v', X.ldc2Long C.1 C.2.2.2.1 (mvT C.2.2.2.2.1 w) (g := mkF m pc Ls st) rfl (hb C.2.1 d) _ (by subst hq; exact S), r⟩
/-- an array of N places; place j holds f j -/
def Av (Z : State) (h : Heap) (a : Addr) (ty : FieldType) (N : Nat) (f : Nat → Value) : Prop := ∃ c : Cell, Arr Z h a c ty ∧ c.slots.size = N ∧ N < 2 ^ 31 ∧ ∀ j, j < N → c.slots[j]? = some (f j)
theorem Av.ext {h' : Heap} {a : Addr} {ty : FieldType} {N : Nat} {f : Nat → Value} (A : Av Z h a ty N f) (E : Ext h h') : Av Z h' a ty N f := by obtain ⟨c, A, r⟩ := A; exact ⟨c, A.ext E, r⟩
theorem Av.lt {a : Addr} {ty : FieldType} {N : Nat} {f : Nat → Value} (A : Av Z h a ty N f) : a < h.size := by obtain ⟨c, A, r⟩ := A; exact A.lt
theorem Av.other {h' : Heap} {a b : Addr} {ty : FieldType} {N sl : Nat} {v : Value} {f : Nat → Value} (A : Av Z h b ty N f) (W : Wr h h' a sl v) (ne : b ≠ a) : Av Z h' b ty N f := by obtain ⟨c, A, r⟩ := A; exact ⟨c, A.other W ne, r⟩
theorem Av.keep {h' : Heap} {a : Addr} {ty : FieldType} {N : Nat} {f : Nat → Value} {ws : List Addr} (A : Av Z h a ty N f) (K : Keep h h' ws) (ne : a ∉ ws) : Av Z h' a ty N f := by obtain ⟨c, A, r⟩ := A; exact ⟨c, ⟨K.2.1 a c A.1 ne, A.2⟩, r⟩
theorem Av.congr {a : Addr} {ty : FieldType} {N : Nat} {f g : Nat → Value} (A : Av Z h a ty N f) (hfg : ∀ j, j < N → f j = g j) : Av Z h a ty N g := by obtain ⟨c, A, r1, r2, r3⟩ := A; exact ⟨c, A, r1, r2, fun j hj => by rw [r3 j hj, hfg j hj]⟩
theorem Av.set {h' : Heap} {a : Addr} {ty : FieldType} {N i : Nat} {v : Value} {f : Nat → Value} (A : Av Z h a ty N f) (W : Wr h h' a i v) (hi : i < N) : Av Z h' a ty N (fun j => if j = i then v else f j) := by
  obtain ⟨c, A, r1, r2, r3⟩ := A
  refine ⟨c.setSlot i v, A.same W, by rw [sz_set]; exact r1, r2, fun j hj => ?_⟩
  by_cases e : j = i
  · subst e; simp [Cell.setSlot, r1, hi]
  · show (c.setSlot i v).slots[j]? = some (if j = i then v else f j)
    rw [if_neg e, ← r3 j hj]; simp [Cell.setSlot, Array.getElem?_setIfInBounds_ne (Ne.symm e)]
theorem Av.new {a : Addr} {ty : FieldType} {cA : ClassId} {N' : Int32} (A : Arr Z h a (newA cA ty N') ty) (hn : ¬ N' < 0) : Av Z h a ty N'.toNatClampNeg (fun _ => defaultValue ty) :=
  ⟨_, A, sz_new _ _ _, (back32 hn).2, fun j hj => by simp [newA, hj]⟩
theorem Av.ne_exa {a b : Addr} {ty : FieldType} {N kk : Nat} {f : Nat → Value} {Cl : String} (A : Av Z h a ty N f) (E : Exa Z h b Cl) (wi : (Cond.instantiable Cl kk).before a0 Z = true) : a ≠ b := by obtain ⟨c, A, r⟩ := A; exact Ne.symm (ne_arr E wi A)
theorem i32_idx {i N : Nat} (hi : i < N) (hN : N < 2 ^ 31) {c : Cell} (hc : c.slots.size = N) : (¬ (Int32.ofNat i < 0 ∨ c.slots.size ≤ (Int32.ofNat i).toNatClampNeg)) ∧ (Int32.ofNat i).toNatClampNeg = i := by
  have e : (Int32.ofNat i).toNatClampNeg = i := Int32.toNatClampNeg_ofNat_of_lt (by omega)
  refine ⟨?_, e⟩
  rw [e, hc]
  rintro (q | q)
  · have := Int32.lt_iff_toInt_lt.mp q
    rw [Int32.toInt_ofNat_of_lt (by omega)] at this
    simp at this
    omega
  · omega
theorem g_iaload (C : Cx p s m meth c Z own nm code ml ret) {a : Addr} {N i : Nat} {f : Nat → Value} {j : Int32} {v : Value} (d : decode code pc = .ok (.iaload, 1)) (A : Av Z h a .int N f) (hi : i < N) (hj : j = Int32.ofNat i) (hv : f i = v) (hq : pc + 1 = q) (K : Go p l e R s m args below meth c Ph n0 h k n q Ls (v :: st)) : Go p l e R s m args below meth c Ph n0 h k n pc Ls (.int j :: .ref a :: st) := fun T locs X N' eT => by
  obtain ⟨c', A, r1, r2, r3⟩ := A
  obtain ⟨g1, g2⟩ := i32_idx hi r2 r1
  obtain ⟨s₂, v', S, r⟩ := K T locs X N' eT
  subst hj hv
  exact ⟨s₂, v', X.iaload C.1 (by rw [eT]; exact A.1) (State.isArrayOf_alike C.2.2.2.2.1.alike A.2.1) A.2.2 g1 (by rw [g2]; exact r3 i hi) (g := mkF m pc Ls _) rfl rfl (hb C.2.1 d) _ (by subst hq; exact S), r⟩
theorem g_laload (C : Cx p s m meth c Z own nm code ml ret) {a : Addr} {N i : Nat} {f : Nat → Value} {j : Int32} {v : Value} (d : decode code pc = .ok (.laload, 1)) (A : Av Z h a .long N f) (hi : i < N) (hj : j = Int32.ofNat i) (hv : f i = v) (hq : pc + 1 = q) (K : Go p l e R s m args below meth c Ph n0 h k n q Ls (v :: st)) : Go p l e R s m args below meth c Ph n0 h k n pc Ls (.int j :: .ref a :: st) := fun T locs X N' eT => by
  obtain ⟨c', A, r1, r2, r3⟩ := A
  obtain ⟨g1, g2⟩ := i32_idx hi r2 r1
  obtain ⟨s₂, v', S, r⟩ := K T locs X N' eT
  subst hj hv
  exact ⟨s₂, v', X.laload C.1 (by rw [eT]; exact A.1) (State.isArrayOf_alike C.2.2.2.2.1.alike A.2.1) A.2.2 g1 (by rw [g2]; exact r3 i hi) (g := mkF m pc Ls _) rfl rfl (hb C.2.1 d) _ (by subst hq; exact S), r⟩
theorem g_caload (C : Cx p s m meth c Z own nm code ml ret) {a : Addr} {N i : Nat} {f : Nat → Value} {j : Int32} {v : Value} (d : decode code pc = .ok (.caload, 1)) (A : Av Z h a .char N f) (hi : i < N) (hj : j = Int32.ofNat i) (hv : f i = v) (hq : pc + 1 = q) (K : Go p l e R s m args below meth c Ph n0 h k n q Ls (v :: st)) : Go p l e R s m args below meth c Ph n0 h k n pc Ls (.int j :: .ref a :: st) := fun T locs X N' eT => by
  obtain ⟨c', A, r1, r2, r3⟩ := A
  obtain ⟨g1, g2⟩ := i32_idx hi r2 r1
  obtain ⟨s₂, v', S, r⟩ := K T locs X N' eT
  subst hj hv
  exact ⟨s₂, v', X.caload C.1 (by rw [eT]; exact A.1) (State.isArrayOf_alike C.2.2.2.2.1.alike A.2.1) A.2.2 g1 (by rw [g2]; exact r3 i hi) (g := mkF m pc Ls _) rfl rfl (hb C.2.1 d) _ (by subst hq; exact S), r⟩
theorem g_baload (C : Cx p s m meth c Z own nm code ml ret) {a : Addr} {N i : Nat} {f : Nat → Value} {j : Int32} {v : Value} (d : decode code pc = .ok (.baload, 1)) (A : Av Z h a .byte N f) (hi : i < N) (hj : j = Int32.ofNat i) (hv : f i = v) (hq : pc + 1 = q) (K : Go p l e R s m args below meth c Ph n0 h k n q Ls (v :: st)) : Go p l e R s m args below meth c Ph n0 h k n pc Ls (.int j :: .ref a :: st) := fun T locs X N' eT => by
  obtain ⟨c', A, r1, r2, r3⟩ := A
  obtain ⟨g1, g2⟩ := i32_idx hi r2 r1
  obtain ⟨s₂, v', S, r⟩ := K T locs X N' eT
  subst hj hv
  exact ⟨s₂, v', X.baloadBytes C.1 (by rw [eT]; exact A.1) (State.isArrayOf_alike C.2.2.2.2.1.alike A.2.1) A.2.2 g1 (by rw [g2]; exact r3 i hi) (g := mkF m pc Ls _) rfl rfl (hb C.2.1 d) _ (by subst hq; exact S), r⟩
theorem g_aaload (C : Cx p s m meth c Z own nm code ml ret) {a : Addr} {N i : Nat} {f : Nat → Value} {j : Int32} {v : Value} {ty : FieldType} (d : decode code pc = .ok (.aaload, 1)) (A : Av Z h a ty N f) (hty : ty.isReference = true) (hi : i < N) (hj : j = Int32.ofNat i) (hv : f i = v) (hq : pc + 1 = q) (K : Go p l e R s m args below meth c Ph n0 h k n q Ls (v :: st)) : Go p l e R s m args below meth c Ph n0 h k n pc Ls (.int j :: .ref a :: st) := fun T locs X N' eT => by
  obtain ⟨c', A, r1, r2, r3⟩ := A
  obtain ⟨g1, g2⟩ := i32_idx hi r2 r1
  obtain ⟨s₂, v', S, r⟩ := K T locs X N' eT
  subst hj hv
  exact ⟨s₂, v', X.aaload C.1 (by rw [eT]; exact A.1) (State.isArrayOf_alike C.2.2.2.2.1.alike A.2.1) hty A.2.2 g1 (by rw [g2]; exact r3 i hi) (g := mkF m pc Ls _) rfl rfl (hb C.2.1 d) _ (by subst hq; exact S), r⟩
theorem g_alen (C : Cx p s m meth c Z own nm code ml ret) {a : Addr} {N : Nat} {f : Nat → Value} {ty : FieldType} {z : Int32} (d : decode code pc = .ok (.arraylength, 1)) (A : Av Z h a ty N f) (hz : Int32.ofNat N = z) (hq : pc + 1 = q) (K : Go p l e R s m args below meth c Ph n0 h k n q Ls (.int z :: st)) : Go p l e R s m args below meth c Ph n0 h k n pc Ls (.ref a :: st) := fun T locs X N' eT => by
  obtain ⟨c', A, r1, r2, r3⟩ := A
  obtain ⟨s₂, v', S, r⟩ := K T locs X N' eT
  refine ⟨s₂, v', X.arraylength C.1 (by rw [eT]; exact A.1) (State.isArrayOf_alike C.2.2.2.2.1.alike A.2.1) (g := mkF m pc Ls _) rfl rfl (hb C.2.1 d) _ ?_, r⟩
  subst hq hz
  rw [r1]
  exact S
theorem g_iastore (C : Cx p s m meth c Z own nm code ml ret) {a : Addr} {N i : Nat} {f : Nat → Value} {j : Int32} {x : Int32} (d : decode code pc = .ok (.iastore, 1)) (A : Av Z h a .int N f) (hi : i < N) (hj : j = Int32.ofNat i) (ha : n0 ≤ a) (hq : pc + 1 = q)
    (K : ∀ h', Wr h h' a i (.int x) → Av Z h' a .int N (fun j => if j = i then (.int x) else f j) → Go p l e R s m args below meth c Ph n0 h' k n q Ls st) : Go p l e R s m args below meth c Ph n0 h k n pc Ls (.int x :: .int j :: .ref a :: st) := fun T locs X N' eT => by
  have A' := A
  obtain ⟨c', A, r1, r2, r3⟩ := A
  obtain ⟨g1, g2⟩ := i32_idx hi r2 r1
  subst hj
  obtain ⟨T', h', X', e', W, stp⟩ := stI X C.1 C.2.2.2.2.1 eT A g1 (g := mkF m pc Ls (.int x :: .int (Int32.ofNat i) :: .ref a :: st)) rfl rfl (hb C.2.1 d)
  have N2 := Fr.snoc X' N' ha
  rw [g2] at W
  obtain ⟨s₂, v, S, r⟩ := K h' W (A'.set W hi) T' _ X' N2 e'
  exact ⟨s₂, v, stp _ (by subst hq; exact S), r⟩
theorem g_lastore (C : Cx p s m meth c Z own nm code ml ret) {a : Addr} {N i : Nat} {f : Nat → Value} {j : Int32} {x : Int64} (d : decode code pc = .ok (.lastore, 1)) (A : Av Z h a .long N f) (hi : i < N) (hj : j = Int32.ofNat i) (ha : n0 ≤ a) (hq : pc + 1 = q)
    (K : ∀ h', Wr h h' a i (.long x) → Av Z h' a .long N (fun j => if j = i then (.long x) else f j) → Go p l e R s m args below meth c Ph n0 h' k n q Ls st) : Go p l e R s m args below meth c Ph n0 h k n pc Ls (.long x :: .int j :: .ref a :: st) := fun T locs X N' eT => by
  have A' := A
  obtain ⟨c', A, r1, r2, r3⟩ := A
  obtain ⟨g1, g2⟩ := i32_idx hi r2 r1
  subst hj
  obtain ⟨T', h', X', e', W, stp⟩ := stJ X C.1 C.2.2.2.2.1 eT A g1 (g := mkF m pc Ls (.long x :: .int (Int32.ofNat i) :: .ref a :: st)) rfl rfl (hb C.2.1 d)
  have N2 := Fr.snoc X' N' ha
  rw [g2] at W
  obtain ⟨s₂, v, S, r⟩ := K h' W (A'.set W hi) T' _ X' N2 e'
  exact ⟨s₂, v, stp _ (by subst hq; exact S), r⟩
theorem g_castore (C : Cx p s m meth c Z own nm code ml ret) {a : Addr} {N i : Nat} {f : Nat → Value} {j : Int32} {x : Int32} (d : decode code pc = .ok (.castore, 1)) (A : Av Z h a .char N f) (hi : i < N) (hj : j = Int32.ofNat i) (ha : n0 ≤ a) (hq : pc + 1 = q)
    (K : ∀ h', Wr h h' a i (.int (nar .char x)) → Av Z h' a .char N (fun j => if j = i then (.int (nar .char x)) else f j) → Go p l e R s m args below meth c Ph n0 h' k n q Ls st) : Go p l e R s m args below meth c Ph n0 h k n pc Ls (.int x :: .int j :: .ref a :: st) := fun T locs X N' eT => by
  have A' := A
  obtain ⟨c', A, r1, r2, r3⟩ := A
  obtain ⟨g1, g2⟩ := i32_idx hi r2 r1
  subst hj
  obtain ⟨T', h', X', e', W, stp⟩ := stC X C.1 C.2.2.2.2.1 eT A g1 (g := mkF m pc Ls (.int x :: .int (Int32.ofNat i) :: .ref a :: st)) rfl rfl (hb C.2.1 d)
  have N2 := Fr.snoc X' N' ha
  rw [g2] at W
  obtain ⟨s₂, v, S, r⟩ := K h' W (A'.set W hi) T' _ X' N2 e'
  exact ⟨s₂, v, stp _ (by subst hq; exact S), r⟩
theorem g_bastore (C : Cx p s m meth c Z own nm code ml ret) {a : Addr} {N i : Nat} {f : Nat → Value} {j : Int32} {x : Int32} (d : decode code pc = .ok (.bastore, 1)) (A : Av Z h a .byte N f) (hi : i < N) (hj : j = Int32.ofNat i) (ha : n0 ≤ a) (hq : pc + 1 = q)
    (K : ∀ h', Wr h h' a i (.int (nar .byte x)) → Av Z h' a .byte N (fun j => if j = i then (.int (nar .byte x)) else f j) → Go p l e R s m args below meth c Ph n0 h' k n q Ls st) : Go p l e R s m args below meth c Ph n0 h k n pc Ls (.int x :: .int j :: .ref a :: st) := fun T locs X N' eT => by
  have A' := A
  obtain ⟨c', A, r1, r2, r3⟩ := A
  obtain ⟨g1, g2⟩ := i32_idx hi r2 r1
  subst hj
  obtain ⟨T', h', X', e', W, stp⟩ := stB X C.1 C.2.2.2.2.1 eT A g1 (g := mkF m pc Ls (.int x :: .int (Int32.ofNat i) :: .ref a :: st)) rfl rfl (hb C.2.1 d)
  have N2 := Fr.snoc X' N' ha
  rw [g2] at W
  obtain ⟨s₂, v, S, r⟩ := K h' W (A'.set W hi) T' _ X' N2 e'
  exact ⟨s₂, v, stp _ (by subst hq; exact S), r⟩
theorem g_aastore (C : Cx p s m meth c Z own nm code ml ret) {a : Addr} {N i : Nat} {f : Nat → Value} {j : Int32} {x : Value} {ty : FieldType} (d : decode code pc = .ok (.aastore, 1)) (A : Av Z h a ty N f) (hi : i < N) (hj : j = Int32.ofNat i) (hty : ty.isReference = true) (F : Sto Z h a x) (ha : n0 ≤ a) (hq : pc + 1 = q)
    (K : ∀ h', Wr h h' a i x → Av Z h' a ty N (fun j => if j = i then x else f j) → Go p l e R s m args below meth c Ph n0 h' k n q Ls st) : Go p l e R s m args below meth c Ph n0 h k n pc Ls (x :: .int j :: .ref a :: st) := fun T locs X N' eT => by
  have A' := A
  obtain ⟨c', A, r1, r2, r3⟩ := A
  obtain ⟨g1, g2⟩ := i32_idx hi r2 r1
  subst hj
  obtain ⟨T', h', X', e', W, stp⟩ := stR X C.1 C.2.2.2.2.1 eT A g1 hty F (g := mkF m pc Ls (x :: .int (Int32.ofNat i) :: .ref a :: st)) rfl rfl (hb C.2.1 d)
  have N2 := Fr.snoc X' N' ha
  rw [g2] at W
  obtain ⟨s₂, v, S, r⟩ := K h' W (A'.set W hi) T' _ X' N2 e'
  exact ⟨s₂, v, stp _ (by subst hq; exact S), r⟩
/-- a contract: with the arguments as', from the heap hs, the call returns v with Q v (the heap then); the written places lie at or above nf; rm: its room -/
def Ctr (l : Launch) (Z : State) (y : MethodName) (bytes : ByteArray) (maxL : Nat) (rt : Option FieldType) (rm : Room) (as' : Array Value) (hs : Heap) (nf : Nat) (Q : Option Value → Heap → Prop) : Prop :=
  MetFree l y (head1 [Cond.code y bytes maxL rt] rm) (fun a U => a = as' ∧ Z.Warmed39 U.vm ∧ U.heap = hs) (fun _ _ _ _ _ => True) (fun _ U o U' => ∃ v L, o = .returned v ∧ (Q v U'.heap ∧ Fr nf L) ∧ FrameEnd U o U' L rm.cells rm.slots)
/-- what a narrow walk must come to -/
def FinN (s : State) (below : List Frame) (rm : Room) (nf : Nat) (Q : Option Value → Heap → Prop) : State → Option Value → Prop :=
  fun s₂ v => s₂.status = .running ∧ Ended s₂ below (.returned v) ∧ ∃ L, (Q v s₂.heap ∧ Fr nf L) ∧ FrameEnd s (.returned v) s₂ L rm.cells rm.slots
theorem Ctr.of {l : Launch} {Z : State} {y : MethodName} {bytes : ByteArray} {maxL : Nat} {rt : Option FieldType} {rm : Room} {as' : Array Value} {hs : Heap} {nf : Nat} {Q : Option Value → Heap → Prop} {n1 : Nat} (Ls : Array Slot) (hp : plainFor y = true) (hE : ∀ m, entryFrame m as' maxL = mkF m 0 Ls [])
    (B : ∀ (p : Program) (e : Env) (s : State) (m : MethodId) (below : List Frame) (meth : Method) (c : Code), Cx p s m meth c Z y.cls y.name bytes maxL rt → Go p l e rm s m as' below meth c (FinN s below rm nf Q) n1 hs 0 0 0 Ls []) : Ctr l Z y bytes maxL rt rm as' hs nf Q := by
  refine MetFree.of_bodySF hp hisR ?_
  intro p e s m args below meth c s₁ Bd hml0 hP hK
  obtain ⟨rfl, hZ, hh⟩ := hP
  have X0 : Stand p l e rm s m _ below meth c s₁ [] 0 0 := Stand.of_body Bd
  have e0 : s₁.heap = hs := by rw [← hh, Bd.state]; rfl
  obtain ⟨s₂, v, S, r1, r2, L, r3, r4⟩ := B p e s m below meth c ⟨Bd.exec, Bd.bytes, hml0, findClass_of_methodNamed Bd.named, hZ, (name_of_methodNamed Bd.named Bd.method).1, Bd.returns, Bd.notSynchronized⟩ s₁ [] X0 (Fr.nil _) e0
  exact ⟨s₂, _, castTop (hE m) S, r1, r2, v, L, rfl, r3, r4⟩
theorem fin_of {T : State} {locs : List Loc} {rm : Room} {nf : Nat} {Q : Option Value → Heap → Prop} {v : Option Value} {st' : List Value} (C : Cx p s m meth c Z own nm code ml ret) (X : Stand p l e R s m args below meth c T locs k n) (N : Fr n0 locs) (eT : T.heap = h) (hv : ret = none → v = none) (hn : nf ≤ n0) (hk : k ≤ rm.cells) (hl : n ≤ rm.slots) (hQ : Q v h)
    (H : ∀ fs, (∀ (f : JFrame) (acts : List Action), f.method = m → f.locked = none → f.entered = [] → (doReturn e (T.setTop f) acts v).1 = T.setFrames fs) → Steps p.tables e below (T.setTop (mkF m pc Ls st')) (T.setFrames fs)) :
    ∃ s₂ v, Steps p.tables e below (T.setTop (mkF m pc Ls st')) s₂ ∧ FinN s below rm nf Q s₂ v := by
  obtain ⟨fs, hr, hrun, hended, hW, hsame⟩ := X.leave (v := v) (fun hh => hv (C.2.2.2.2.2.2.1.symm.trans hh)) C.2.2.2.2.2.2.2
  exact ⟨_, v, H fs hr, hrun, hended, locs, ⟨by rw [show (T.setFrames fs).heap = h from eT]; exact hQ, fun y hy => Nat.le_trans hn (N y hy)⟩, ⟨v, rfl⟩, hW, hsame.mono hk hl⟩
theorem g_return {rm : Room} {nf : Nat} {Q : Option Value → Heap → Prop} (C : Cx p s m meth c Z own nm code ml none) (d : decode code pc = .ok (.return_, 1)) (hn : nf ≤ n0) (hk : k ≤ rm.cells) (hl : n ≤ rm.slots) (hQ : Q none h) : Go p l e R s m args below meth c (FinN s below rm nf Q) n0 h k n pc Ls [] :=
  fun T locs X N eT => fin_of C X N eT (fun _ => rfl) hn hk hl hQ fun fs hr => X.returnOut C.1 C.2.2.2.2.2.2.1 (hb C.2.1 d) hr
theorem g_ireturn {rm : Room} {nf : Nat} {Q : Option Value → Heap → Prop} {x : Int32} (C : Cx p s m meth c Z own nm code ml (some .int)) (d : decode code pc = .ok (.ireturn, 1)) (hn : nf ≤ n0) (hk : k ≤ rm.cells) (hl : n ≤ rm.slots) (hQ : Q (some (.int x)) h) : Go p l e R s m args below meth c (FinN s below rm nf Q) n0 h k n pc Ls (.int x :: st) :=
  fun T locs X N eT => fin_of C X N eT (fun hh => nomatch hh) hn hk hl hQ fun fs hr => retI X C.1 C.2.2.2.2.2.2.1 (hb C.2.1 d) hr
theorem g_nreturn {rm : Room} {nf : Nat} {Q : Option Value → Heap → Prop} {x z : Int32} {t : FieldType} (C : Cx p s m meth c Z own nm code ml (some t)) (d : decode code pc = .ok (.ireturn, 1)) (ht : t = .boolean ∨ t = .byte ∨ t = .char ∨ t = .short) (hz : nar t x = z) (hn : nf ≤ n0) (hk : k ≤ rm.cells) (hl : n ≤ rm.slots) (hQ : Q (some (.int z)) h) : Go p l e R s m args below meth c (FinN s below rm nf Q) n0 h k n pc Ls (.int x :: st) :=
  fun T locs X N eT => fin_of (v := some (.int z)) C X N eT (fun hh => nomatch hh) hn hk hl hQ fun fs hr => retN X C.1 C.2.2.2.2.2.2.1 ht (hb C.2.1 d) (by rw [hz]; exact hr)
theorem g_lreturn {rm : Room} {nf : Nat} {Q : Option Value → Heap → Prop} {x : Int64} (C : Cx p s m meth c Z own nm code ml (some .long)) (d : decode code pc = .ok (.lreturn, 1)) (hn : nf ≤ n0) (hk : k ≤ rm.cells) (hl : n ≤ rm.slots) (hQ : Q (some (.long x)) h) : Go p l e R s m args below meth c (FinN s below rm nf Q) n0 h k n pc Ls (.long x :: st) :=
  fun T locs X N eT => fin_of C X N eT (fun hh => nomatch hh) hn hk hl hQ fun fs hr => retOut X C.1 C.2.2.2.2.2.2.1 rfl (Or.inr (Or.inl ⟨rfl, rfl, x, rfl⟩)) (hb C.2.1 d) hr
theorem g_areturn {rm : Room} {nf : Nat} {Q : Option Value → Heap → Prop} {x : Value} {t : FieldType} (C : Cx p s m meth c Z own nm code ml (some t)) (d : decode code pc = .ok (.areturn, 1)) (ht : t.isReference = true) (hx : x.isRef = true) (hn : nf ≤ n0) (hk : k ≤ rm.cells) (hl : n ≤ rm.slots) (hQ : Q (some x) h) : Go p l e R s m args below meth c (FinN s below rm nf Q) n0 h k n pc Ls (x :: st) :=
  fun T locs X N eT => fin_of C X N eT (fun hh => nomatch hh) hn hk hl hQ fun fs hr => retOut X C.1 C.2.2.2.2.2.2.1 (by rcases ref_cases hx with rfl | ⟨a, rfl⟩ <;> cases t <;> first | rfl | cases ht) (Or.inr (Or.inr (Or.inr (Or.inr ⟨rfl, ht, hx⟩)))) (hb C.2.1 d) hr
/-- a callee that pays, at this walk -/
def BK (l : Launch) (R : Room) (p : Program) (e : Env) (below : List Frame) (s : State) (args : Array Value) (y : MethodName) (len W : Nat) (as' : Array Value) (h : Heap) (ck sk n0 : Nat) (Q : Option Value → Heap → Prop) : Prop :=
  Back l R p e below s args y len W (fun A a => a = as' ∧ A.U.heap = h ∧ A.cells + ck ≤ R.cells ∧ A.slots + sk ≤ R.slots) (fun A _ v B => ∃ L, (Q v B.U.heap ∧ Fr n0 L) ∧ B.locs = A.locs ++ L ∧ B.cells = A.cells + ck ∧ B.slots = A.slots + sk)
theorem Ctr.bk {y : MethodName} {bytes : ByteArray} {maxL len W : Nat} {rt : Option FieldType} {rm : Room} {as' : Array Value} {Q : Option Value → Heap → Prop} (M : Ctr l Z y bytes maxL rt rm as' h n0 Q) (C : Cx p s m meth c Z own nm code ml ret) (w4 : (Cond.code y bytes maxL rt).before a0 Z = true) (w3 : (Cond.initialized y.cls).before a0 Z = true) (hf : rm.frames + 1 ≤ R.frames) (hl : W + (maxL + 11) + rm.locals ≤ R.locals) : BK l R p e below s args y len W as' h rm.cells rm.slots n0 Q :=
  backOf (W := W) (Q := fun v h' L => Q v h' ∧ Fr n0 L) M C.2.2.2.2.1 w4 w3 hf hl
theorem g_callS (C : Cx p s m meth c Z own nm code ml ret) {y : MethodName} {bytes : ByteArray} {maxL ck sk : Nat} {rt : Option FieldType} {Q : Option Value → Heap → Prop} {index W : Nat} {argsL : List Value} (d : decode code pc = .ok (.invokestatic index, 3)) (w1 : (Cond.methodLink own index y).before a0 Z = true) (w2 : (Cond.static y).before a0 Z = true) (w3 : (Cond.initialized y.cls).before a0 Z = true) (w4 : (Cond.code y bytes maxL rt).before a0 Z = true) (hy : y.cls ≠ "java/lang/invoke/MethodHandle" ∧ y.cls ≠ "java/lang/invoke/VarHandle")
    (M : BK l R p e below s args y 3 W argsL.toArray h ck sk n0 Q) (hc : k + ck ≤ R.cells) (hs : n + sk ≤ R.slots) (hsz : Ls.size = ml) (hlen : ∀ sig, parseMethodDescriptor y.desc = some sig → argsL.length = sig.parameters.length) (hst : st = argsL.reverse ++ rest) (hW : (rest.map fun v => v.category).sum = W) (hq : pc + 3 = q)
    (K : ∀ v h', Q v h' → ∃ st', st' = v.toList ++ rest ∧ Go p l e R s m args below meth c Ph n0 h' (k + ck) (n + sk) q Ls st') : Go p l e R s m args below meth c Ph n0 h k n pc Ls st := fun T locs X N eT => by
  have hZ := C.2.2.2.2.1
  obtain ⟨v, vm1, ⟨T', L', k', n'⟩, -, X', ⟨L, ⟨hQ, NL⟩, l1, l2, l3⟩, stp⟩ := Jvm.LawKit.callS X C.1 (y := y) C.2.2.2.1 (mvT hZ w1) (mvT hZ w2) (mvT hZ w3) (mvT hZ w4) hy M (g := mkF m pc Ls st) rfl (hsz.trans C.2.2.1.symm) (argsL := argsL) (rest := rest) hlen hst (by show 2 * 0 + _ ≤ _; rw [hW]; omega) (hb C.2.1 d) (fun _ _ => ⟨rfl, eT, hc, hs⟩)
  dsimp only [Pt.U, Pt.locs, Pt.cells, Pt.slots] at X' l1 l2 l3 stp
  subst l1 l2 l3
  obtain ⟨st', hst', K'⟩ := K v _ hQ
  obtain ⟨s₂, v', S, r⟩ := K' _ _ X' (N.app NL) rfl
  exact ⟨s₂, v', stp _ (by subst hq hst'; exact S), r⟩
theorem g_callI (C : Cx p s m meth c Z own nm code ml ret) {y : MethodName} {bytes : ByteArray} {maxL ck sk : Nat} {Q : Option Value → Heap → Prop} {index W : Nat} {argsL : List Value} {a : Addr} (d : decode code pc = .ok (.invokespecial index, 3)) (hy1 : y.name = "<init>") (w1 : (Cond.methodLink own index y).before a0 Z = true) (w2 : (Cond.instanceMethod y).before a0 Z = true) (w4 : (Cond.code y bytes maxL none).before a0 Z = true) (hy : y.cls ≠ "java/lang/invoke/MethodHandle" ∧ y.cls ≠ "java/lang/invoke/VarHandle")
    (M : BK l R p e below s args y 3 W (.ref a :: argsL).toArray h ck sk n0 Q) (hc : k + ck ≤ R.cells) (hs : n + sk ≤ R.slots) (hsz : Ls.size = ml) (hlen : ∀ sig, parseMethodDescriptor y.desc = some sig → argsL.length = sig.parameters.length) (hst : st = argsL.reverse ++ .ref a :: rest) (hW : (rest.map fun v => v.category).sum = W) (hq : pc + 3 = q)
    (K : ∀ v h', Q v h' → ∃ st', st' = v.toList ++ rest ∧ Go p l e R s m args below meth c Ph n0 h' (k + ck) (n + sk) q Ls st') : Go p l e R s m args below meth c Ph n0 h k n pc Ls st := fun T locs X N eT => by
  have hZ := C.2.2.2.2.1
  obtain ⟨v, vm1, ⟨T', L', k', n'⟩, -, X', ⟨L, ⟨hQ, NL⟩, l1, l2, l3⟩, stp⟩ := X.specialBack C.1 (y := y) hy1 C.2.2.2.1 (mvT hZ w1) (mvT hZ w2) (mvT hZ w4) hy M (g := mkF m pc Ls st) rfl (hsz.trans C.2.2.1.symm) (Steps.refl _) (a := a) (argsL := argsL) (rest := rest) hlen hst (by show 2 * 0 + _ ≤ _; rw [hW]; omega) (hb C.2.1 d) (fun _ _ => ⟨rfl, eT, hc, hs⟩)
  dsimp only [Pt.U, Pt.locs, Pt.cells, Pt.slots] at X' l1 l2 l3 stp
  subst l1 l2 l3
  obtain ⟨st', hst', K'⟩ := K v _ hQ
  obtain ⟨s₂, v', S, r⟩ := K' _ _ X' (N.app NL) rfl
  exact ⟨s₂, v', stp.trans (by subst hq hst'; exact S), r⟩
theorem g_callV (C : Cx p s m meth c Z own nm code ml ret) {y : MethodName} {ck sk : Nat} {Q : Option Value → Heap → Prop} {index W : Nat} {argsL : List Value} {y0 : MethodName} {Cl : String} {a : Addr} (d : decode code pc = .ok (.invokevirtual index, 3)) (w1 : (Cond.methodLink own index y0).before a0 Z = true) (w2 : (Cond.declares y0).before a0 Z = true) (w5 : (Cond.selects Cl y0 y).before a0 Z = true) (w6 : (Cond.instanceMethod y).before a0 Z = true) (hy : y0.cls ≠ "java/lang/invoke/MethodHandle" ∧ y0.cls ≠ "java/lang/invoke/VarHandle") (hnf : NotFace s y0)
    (E : Exa Z h a Cl) (M : BK l R p e below s args y 3 W (.ref a :: argsL).toArray h ck sk n0 Q) (hc : k + ck ≤ R.cells) (hs : n + sk ≤ R.slots) (hsz : Ls.size = ml) (hlen : ∀ sig, parseMethodDescriptor y0.desc = some sig → argsL.length = sig.parameters.length) (hst : st = argsL.reverse ++ .ref a :: rest) (hW : (rest.map fun v => v.category).sum = W) (hq : pc + 3 = q)
    (K : ∀ v h', Q v h' → ∃ st', st' = v.toList ++ rest ∧ Go p l e R s m args below meth c Ph n0 h' (k + ck) (n + sk) q Ls st') : Go p l e R s m args below meth c Ph n0 h k n pc Ls st := fun T locs X N eT => by
  have hZ := C.2.2.2.2.1
  obtain ⟨cq, kq, qa, qb, qc⟩ := isOf hZ eT E
  obtain ⟨v, vm1, ⟨T', L', k', n'⟩, -, X', ⟨L, ⟨hQ, NL⟩, l1, l2, l3⟩, stp⟩ := X.virtualBack C.1 (y := y0) (z := y) C.2.2.2.1 (mvT hZ w1) (mvT hZ w2) hnf (mvT hZ w5) (mvT hZ w6) hy M qa qc (g := mkF m pc Ls st) rfl (hsz.trans C.2.2.1.symm) (Steps.refl _) (argsL := argsL) (rest := rest) hlen hst (by show 2 * 0 + _ ≤ _; rw [hW]; omega) (hb C.2.1 d) (fun _ _ => ⟨rfl, eT, hc, hs⟩)
  dsimp only [Pt.U, Pt.locs, Pt.cells, Pt.slots] at X' l1 l2 l3 stp
  subst l1 l2 l3
  obtain ⟨st', hst', K'⟩ := K v _ hQ
  obtain ⟨s₂, v', S, r⟩ := K' _ _ X' (N.app NL) rfl
  exact ⟨s₂, v', stp.trans (by subst hq hst'; exact S), r⟩
theorem g_callVU (C : Cx p s m meth c Z own nm code ml ret) {y : MethodName} {ck sk : Nat} {Q : Option Value → Heap → Prop} {index W : Nat} {argsL : List Value} {y0 : MethodName} {owner : String} {Cl : String} {a : Addr} (d : decode code pc = .ok (.invokevirtual index, 3)) (w1 : (Cond.methodLink own index y0).before a0 Z = true) (ws : (Cond.sameMethod y0.cls owner y0.name y0.desc).before a0 Z = true) (w2 : (Cond.declares ⟨owner, y0.name, y0.desc⟩).before a0 Z = true) (w5 : (Cond.selects Cl y0 y).before a0 Z = true) (w6 : (Cond.instanceMethod y).before a0 Z = true) (hy : owner ≠ "java/lang/invoke/MethodHandle" ∧ owner ≠ "java/lang/invoke/VarHandle")
    (E : Exa Z h a Cl) (M : BK l R p e below s args y 3 W (.ref a :: argsL).toArray h ck sk n0 Q) (hc : k + ck ≤ R.cells) (hs : n + sk ≤ R.slots) (hsz : Ls.size = ml) (hlen : ∀ sig, parseMethodDescriptor y0.desc = some sig → argsL.length = sig.parameters.length) (hst : st = argsL.reverse ++ .ref a :: rest) (hW : (rest.map fun v => v.category).sum = W) (hq : pc + 3 = q)
    (K : ∀ v h', Q v h' → ∃ st', st' = v.toList ++ rest ∧ Go p l e R s m args below meth c Ph n0 h' (k + ck) (n + sk) q Ls st') : Go p l e R s m args below meth c Ph n0 h k n pc Ls st := fun T locs X N eT => by
  have hZ := C.2.2.2.2.1
  obtain ⟨cq, kq, qa, qb, qc⟩ := isOf hZ eT E
  obtain ⟨v, vm1, ⟨T', L', k', n'⟩, -, X', ⟨L, ⟨hQ, NL⟩, l1, l2, l3⟩, stp⟩ := X.virtualBackUp C.1 (x := y0) (y := y) C.2.2.2.1 (mvT hZ w1) (mvT hZ ws) (mvT hZ w2) hy (mvT hZ w5) (mvT hZ w6) M qa qc (g := mkF m pc Ls st) rfl (hsz.trans C.2.2.1.symm) (Steps.refl _) (argsL := argsL) (rest := rest) hlen hst (by show 2 * 0 + _ ≤ _; rw [hW]; omega) (hb C.2.1 d) (fun _ _ => ⟨rfl, eT, hc, hs⟩)
  dsimp only [Pt.U, Pt.locs, Pt.cells, Pt.slots] at X' l1 l2 l3 stp
  subst l1 l2 l3
  obtain ⟨st', hst', K'⟩ := K v _ hQ
  obtain ⟨s₂, v', S, r⟩ := K' _ _ X' (N.app NL) rfl
  exact ⟨s₂, v', stp.trans (by subst hq hst'; exact S), r⟩
theorem g_callP (C : Cx p s m meth c Z own nm code ml ret) {y : MethodName} {bytes : ByteArray} {maxL ck sk : Nat} {rt : Option FieldType} {Q : Option Value → Heap → Prop} {index W : Nat} {argsL : List Value} {Cl : String} {a : Addr} (d : decode code pc = .ok (.invokevirtual index, 3)) (w1 : (Cond.methodLink own index y).before a0 Z = true) (w2 : (Cond.instanceMethod y).before a0 Z = true) {kk : Nat} (wi : (Cond.instantiable y.cls kk).before a0 Z = true) (w4 : (Cond.code y bytes maxL rt).before a0 Z = true) (hy : y.cls ≠ "java/lang/invoke/MethodHandle" ∧ y.cls ≠ "java/lang/invoke/VarHandle") (hpr : s.PrivateAt y)
    (E : Exa Z h a Cl) (M : BK l R p e below s args y 3 W (.ref a :: argsL).toArray h ck sk n0 Q) (hc : k + ck ≤ R.cells) (hs : n + sk ≤ R.slots) (hsz : Ls.size = ml) (hlen : ∀ sig, parseMethodDescriptor y.desc = some sig → argsL.length = sig.parameters.length) (hst : st = argsL.reverse ++ .ref a :: rest) (hW : (rest.map fun v => v.category).sum = W) (hq : pc + 3 = q)
    (K : ∀ v h', Q v h' → ∃ st', st' = v.toList ++ rest ∧ Go p l e R s m args below meth c Ph n0 h' (k + ck) (n + sk) q Ls st') : Go p l e R s m args below meth c Ph n0 h k n pc Ls st := fun T locs X N eT => by
  have hZ := C.2.2.2.2.1
  obtain ⟨ce, hce, hob⟩ := E.cell
  obtain ⟨ci, ki, hci, hki, -, hni, -⟩ := Cond.instantiable_spec (mv (args := args) hZ wi)
  simp only [Bool.or_eq_false_iff] at hni
  have w5 : (Cond.selects y.cls y y).before args s = true := Jvm.Stand.selects_self_of_private hci hki hni.1 hpr (mvT hZ w2) hy
  obtain ⟨v, vm1, ⟨T', L', k', n'⟩, -, X', ⟨L, ⟨hQ, NL⟩, l1, l2, l3⟩, stp⟩ := X.privateBack C.1 (y := y) C.2.2.2.1 (mvT hZ w1) (mvT hZ w2) w5 hpr (mvT hZ w4) hy M (g := mkF m pc Ls st) rfl (hsz.trans C.2.2.1.symm) (Steps.refl _) (a := a) (cell := ce) (by rw [eT]; exact hce) hob (argsL := argsL) (rest := rest) hlen hst (by show 2 * 0 + _ ≤ _; rw [hW]; omega) (hb C.2.1 d) (fun _ _ => ⟨rfl, eT, hc, hs⟩)
  dsimp only [Pt.U, Pt.locs, Pt.cells, Pt.slots] at X' l1 l2 l3 stp
  subst l1 l2 l3
  obtain ⟨st', hst', K'⟩ := K v _ hQ
  obtain ⟨s₂, v', S, r⟩ := K' _ _ X' (N.app NL) rfl
  exact ⟨s₂, v', stp.trans (by subst hq hst'; exact S), r⟩
theorem g_callQ (C : Cx p s m meth c Z own nm code ml ret) {y : MethodName} {bytes : ByteArray} {maxL ck sk : Nat} {rt : Option FieldType} {Q : Option Value → Heap → Prop} {index W : Nat} {argsL : List Value} {Cl : String} {a : Addr} (d : decode code pc = .ok (.invokevirtual index, 3)) (w1 : (Cond.methodLink own index y).before a0 Z = true) (w2 : (Cond.instanceMethod y).before a0 Z = true) {Cs : String} (wsel : (Cond.selects Cs y y).before a0 Z = true) (w4 : (Cond.code y bytes maxL rt).before a0 Z = true) (hy : y.cls ≠ "java/lang/invoke/MethodHandle" ∧ y.cls ≠ "java/lang/invoke/VarHandle") (hpr : s.PrivateAt y)
    (E : Exa Z h a Cl) (M : BK l R p e below s args y 3 W (.ref a :: argsL).toArray h ck sk n0 Q) (hc : k + ck ≤ R.cells) (hs : n + sk ≤ R.slots) (hsz : Ls.size = ml) (hlen : ∀ sig, parseMethodDescriptor y.desc = some sig → argsL.length = sig.parameters.length) (hst : st = argsL.reverse ++ .ref a :: rest) (hW : (rest.map fun v => v.category).sum = W) (hq : pc + 3 = q)
    (K : ∀ v h', Q v h' → ∃ st', st' = v.toList ++ rest ∧ Go p l e R s m args below meth c Ph n0 h' (k + ck) (n + sk) q Ls st') : Go p l e R s m args below meth c Ph n0 h k n pc Ls st := fun T locs X N eT => by
  have hZ := C.2.2.2.2.1
  obtain ⟨ce, hce, hob⟩ := E.cell
  obtain ⟨c2, r2, m2, -, -, q3, -, kP, hkP, hkPi⟩ := Cond.selects_spec (mvT (args := args) hZ wsel)
  have w5 : (Cond.selects y.cls y y).before args s = true := Jvm.Stand.selects_self_of_private (findClass_of_methodNamed q3) hkP hkPi hpr (mvT hZ w2) hy
  obtain ⟨v, vm1, ⟨T', L', k', n'⟩, -, X', ⟨L, ⟨hQ, NL⟩, l1, l2, l3⟩, stp⟩ := X.privateBack C.1 (y := y) C.2.2.2.1 (mvT hZ w1) (mvT hZ w2) w5 hpr (mvT hZ w4) hy M (g := mkF m pc Ls st) rfl (hsz.trans C.2.2.1.symm) (Steps.refl _) (a := a) (cell := ce) (by rw [eT]; exact hce) hob (argsL := argsL) (rest := rest) hlen hst (by show 2 * 0 + _ ≤ _; rw [hW]; omega) (hb C.2.1 d) (fun _ _ => ⟨rfl, eT, hc, hs⟩)
  dsimp only [Pt.U, Pt.locs, Pt.cells, Pt.slots] at X' l1 l2 l3 stp
  subst l1 l2 l3
  obtain ⟨st', hst', K'⟩ := K v _ hQ
  obtain ⟨s₂, v', S, r⟩ := K' _ _ X' (N.app NL) rfl
  exact ⟨s₂, v', stp.trans (by subst hq hst'; exact S), r⟩
theorem same_of {Z : State} {a0 : Array Value} {Cs : String} {y y1 y2 : MethodName} (w3 : (Cond.instanceMethod y).before a0 Z = true) (wsel : (Cond.selects Cs y1 y2).before a0 Z = true) (hc : y2.cls = y.cls) (hy : y.cls ≠ "java/lang/invoke/MethodHandle" ∧ y.cls ≠ "java/lang/invoke/VarHandle") : (Cond.sameMethod y.cls y.cls y.name y.desc).before a0 Z = true := by
  obtain ⟨mk, methM, hnamed, hmethM, -, -⟩ := Cond.instanceMethod_spec w3
  obtain ⟨c2, r2, m2, -, -, q3, -, kP, hkP, hkPi⟩ := Cond.selects_spec wsel
  have hf := State.methodFound?_of_named hnamed hy
  have h1 := findClass_of_methodNamed hnamed
  have h2 := findClass_of_methodNamed q3
  rw [hc, h1] at h2
  have e := Option.some.inj h2
  rw [← e] at hkP
  have hn' : Z.methodNamed? ⟨y.cls, y.name, y.desc⟩ = some mk := hnamed
  simp [Cond.before, Cond.holds, Cond.value, h1, hf, hn', hkP, hkPi]
theorem g_callU (C : Cx p s m meth c Z own nm code ml ret) {y : MethodName} {bytes : ByteArray} {maxL ck sk : Nat} {rt : Option FieldType} {Q : Option Value → Heap → Prop} {index W : Nat} {argsL : List Value} {Cl Cs : String} {y1 y2 : MethodName} {a : Addr} (d : decode code pc = .ok (.invokespecial index, 3)) (w1 : (Cond.methodLink own index y).before a0 Z = true) (w3 : (Cond.instanceMethod y).before a0 Z = true) (w4 : (Cond.superclass own y.cls).before a0 Z = true) (wsel : (Cond.selects Cs y1 y2).before a0 Z = true) (hcl : y2.cls = y.cls) (hni : y.name ≠ "<init>") (wc : (Cond.code y bytes maxL rt).before a0 Z = true) (hy : y.cls ≠ "java/lang/invoke/MethodHandle" ∧ y.cls ≠ "java/lang/invoke/VarHandle")
    (E : Exa Z h a Cl) (M : BK l R p e below s args y 3 W (.ref a :: argsL).toArray h ck sk n0 Q) (hc : k + ck ≤ R.cells) (hs : n + sk ≤ R.slots) (hsz : Ls.size = ml) (hlen : ∀ sig, parseMethodDescriptor y.desc = some sig → argsL.length = sig.parameters.length) (hst : st = argsL.reverse ++ .ref a :: rest) (hW : (rest.map fun v => v.category).sum = W) (hq : pc + 3 = q)
    (K : ∀ v h', Q v h' → ∃ st', st' = v.toList ++ rest ∧ Go p l e R s m args below meth c Ph n0 h' (k + ck) (n + sk) q Ls st') : Go p l e R s m args below meth c Ph n0 h k n pc Ls st := fun T locs X N eT => by
  have hZ := C.2.2.2.2.1
  obtain ⟨v, vm1, ⟨T', L', k', n'⟩, -, X', ⟨L, ⟨hQ, NL⟩, l1, l2, l3⟩, stp⟩ := superBack X C.1 hZ C.2.2.2.1 w1 (same_of w3 wsel hcl hy) w3 w4 hni M eT (Ins.self E) (g := mkF m pc Ls st) rfl (hsz.trans C.2.2.1.symm) wc (argsL := argsL) (rest := rest) hlen hst (by show 2 * 0 + _ ≤ _; rw [hW]; omega) (hb C.2.1 d) (fun _ _ => ⟨rfl, eT, hc, hs⟩)
  dsimp only [Pt.U, Pt.locs, Pt.cells, Pt.slots] at X' l1 l2 l3 stp
  subst l1 l2 l3
  obtain ⟨st', hst', K'⟩ := K v _ hQ
  obtain ⟨s₂, v', S, r⟩ := K' _ _ X' (N.app NL) rfl
  exact ⟨s₂, v', stp.trans (by subst hq hst'; exact S), r⟩
theorem g_callF (C : Cx p s m meth c Z own nm code ml ret) {y : MethodName} {ck sk : Nat} {Q : Option Value → Heap → Prop} {index W : Nat} {argsL : List Value} {xi : MethodName} {Cl : String} {a : Addr} {count : Nat} (d : decode code pc = .ok (.invokeinterface index count, 5)) (w1 : (Cond.methodLink own index xi).before a0 Z = true) (w2 : (Cond.declares xi).before a0 Z = true) (w3 : (Cond.interfaceMethod xi.cls xi.cls xi.name xi.desc).before a0 Z = true) (w5 : (Cond.selects Cl xi y).before a0 Z = true) (w6 : (Cond.instanceMethod y).before a0 Z = true) (w7 : (Cond.publicMethod y).before a0 Z = true) (w8 : (Cond.unhidden Cl xi.name xi.desc).before a0 Z = true) (w9 : (Cond.castable Cl xi.cls).before a0 Z = true) (hfa : ((Cond.interfaceMethod xi.cls xi.cls xi.name xi.desc).onTables && (Cond.interfaceMethod xi.cls xi.cls xi.name xi.desc).keepsFace) = true) (hy : xi.cls ≠ "java/lang/invoke/MethodHandle" ∧ xi.cls ≠ "java/lang/invoke/VarHandle")
    (E : Exa Z h a Cl) (M : BK l R p e below s args y 5 W (.ref a :: argsL).toArray h ck sk n0 Q) (hc : k + ck ≤ R.cells) (hs : n + sk ≤ R.slots) (hsz : Ls.size = ml) (hlen : ∀ sig, parseMethodDescriptor xi.desc = some sig → argsL.length = sig.parameters.length) (hst : st = argsL.reverse ++ .ref a :: rest) (hW : (rest.map fun v => v.category).sum = W) (hq : pc + 5 = q)
    (K : ∀ v h', Q v h' → ∃ st', st' = v.toList ++ rest ∧ Go p l e R s m args below meth c Ph n0 h' (k + ck) (n + sk) q Ls st') : Go p l e R s m args below meth c Ph n0 h k n pc Ls st := fun T locs X N eT => by
  have hZ := C.2.2.2.2.1
  obtain ⟨cq, kq, qa, qb, qc⟩ := isOf hZ eT E
  obtain ⟨v, vm1, ⟨T', L', k', n'⟩, -, X', ⟨L, ⟨hQ, NL⟩, l1, l2, l3⟩, stp⟩ := X.interfaceBack C.1 (xi := xi) (y := y) C.2.2.2.1 (mvT hZ w1) (mvT hZ w2) (mvT hZ w3 hfa) (mvT hZ w5) (mvT hZ w6) (mvT hZ w7) (mvT hZ w8) (mvT hZ w9) hy M qa qb qc (g := mkF m pc Ls st) rfl (hsz.trans C.2.2.1.symm) (Steps.refl _) (argsL := argsL) (rest := rest) hlen hst (by show 2 * 0 + _ ≤ _; rw [hW]; omega) (hb C.2.1 d) (fun _ _ => ⟨rfl, eT, hc, hs⟩)
  dsimp only [Pt.U, Pt.locs, Pt.cells, Pt.slots] at X' l1 l2 l3 stp
  subst l1 l2 l3
  obtain ⟨st', hst', K'⟩ := K v _ hQ
  obtain ⟨s₂, v', S, r⟩ := K' _ _ X' (N.app NL) rfl
  exact ⟨s₂, v', stp.trans (by subst hq hst'; exact S), r⟩
theorem nf_of {y : MethodName} {Cl : String} (C : Cx p s m meth c Z own nm code ml ret) (w : (Cond.selects Cl y y).before a0 Z = true) : NotFace s y := notFace_of_selects (args := #[]) (mvT C.2.2.2.2.1 w)
theorem nf_of2 {y y1 y2 : MethodName} {Cl : String} (C : Cx p s m meth c Z own nm code ml ret) (w : (Cond.selects Cl y1 y2).before a0 Z = true) (hc : y2.cls = y.cls) : NotFace s y := fun r0 hr => by
  obtain ⟨c2, r2, m2, -, -, q3, -, kP, hkP, hkPi⟩ := Cond.selects_spec (mvT (args := #[]) C.2.2.2.2.1 w)
  have h1 := findClass_of_methodNamed hr
  have h2 := findClass_of_methodNamed q3
  rw [hc, h1] at h2
  have e := Option.some.inj h2
  rw [← e] at hkP
  exact ⟨kP, hkP, hkPi⟩
theorem priv_of {y : MethodName} (C : Cx p s m meth c Z own nm code ml ret) (w : (Cond.privateMethod y).before a0 Z = true) : s.PrivateAt y := Cond.privateMethod_at (args := #[]) (mvP C.2.2.2.2.1 w)
theorem Av.arv {a : Addr} {ty : FieldType} {N : Nat} {f : Nat → Value} {vs : List Value} {dv : Value} (A : Av Z h a ty N f) (hf : ∀ j, j < N → f j = vs.getD j dv) (hfit : ∀ j, j < N → fits ty (vs.getD j dv) = true) : ∃ kA, Arv Z h a kA ty (Int32.ofNat N) vs dv := by
  obtain ⟨c', A, r1, r2, r3⟩ := A
  have e : (Int32.ofNat N).toNatClampNeg = N := Int32.toNatClampNeg_ofNat_of_lt r2
  refine ⟨c'.cls, c', A, rfl, by rw [e]; exact r1, ?_, fun j hj => by rw [r3 j (r1 ▸ hj), hf j (r1 ▸ hj)], fun j hj => hfit j (r1 ▸ hj)⟩
  intro q
  have := Int32.lt_iff_toInt_lt.mp q
  rw [Int32.toInt_ofNat_of_lt r2] at this
  simp at this
  omega
theorem app_less {ws : List Cond} {c0 : Cond} {rm : Room} {y : MethodName} {pl : Platform} {sa : State} {ma : MethodId} {aa : Array Value} {ba : List Frame} (hf : sa.frames = .invoking ma aa :: ba) (hh : (head1 (c0 :: ws) rm).appliesLoose y pl sa = true) : (head1 [c0] rm).appliesLoose y pl sa = true := by
  obtain ⟨h1, h2, h3, h4, h5, h6, h7, h8⟩ := (Spec.appliesLoose_iff hf).mp hh
  refine (Spec.appliesLoose_iff hf).mpr ⟨h1, h2, h3, h4, h5, h6, h7, ?_⟩
  show (Cond.and c0 .tt).before aa sa = true
  rw [Cond.before_and, atoms_spec (ws := c0 :: ws) h8 c0 (List.mem_cons_self ..)]; rfl
theorem own_cat {v : Value} (hr : v.isRef = true) : v.category = 1 := by rcases ref_cases hr with rfl | ⟨a, rfl⟩ <;> rfl
theorem own_nar {v : Value} {cn : String} (hr : v.isRef = true) : narrow (.object cn) v = v := by rcases ref_cases hr with rfl | ⟨a, rfl⟩ <;> rfl
theorem own_fit {v : Value} {cn : String} (hr : v.isRef = true) : fits (.object cn) v = true := by rcases ref_cases hr with rfl | ⟨a, rfl⟩ <;> rfl
theorem Ext.keep {h0 h h' : Heap} {ws : List Addr} (E : Ext h0 h) (K : Keep h h' ws) (q : ∀ x ∈ ws, h0.size ≤ x) : Ext h0 h' := ⟨Nat.le_trans E.1 K.1, fun a c hc => K.2.1 a c (E.2 a c hc) fun hm => Nat.not_lt.mpr (q a hm) (Array.getElem?_eq_some_iff.mp hc).1⟩
theorem Ext.wr {h0 h h' : Heap} {a : Addr} {sl : Nat} {v : Value} (E : Ext h0 h) (W : Wr h h' a sl v) (q : h0.size ≤ a) : Ext h0 h' := Ext.keep E (Keep.of_wr W) fun x hx => by cases List.mem_singleton.mp hx; exact q
theorem Ext.tr {h0 h h' : Heap} (E : Ext h0 h) (E' : Ext h h') : Ext h0 h' := ⟨Nat.le_trans E.1 E'.1, fun a c hc => E'.2 a c (E.2 a c hc)⟩
theorem Ext.rfl' (h : Heap) : Ext h h := ⟨Nat.le_refl _, fun _ _ q => q⟩
theorem Ext.kp {h h' : Heap} (E : Ext h h') (ws : List Addr) : Keep h h' ws := (Keep.refl h ws).ext E
/-- an array of references of a class, which takes its objects -/
def Ao (Z : State) (h : Heap) (a : Addr) (Cl : String) (N : Nat) (f : Nat → Value) : Prop := ∃ c : Cell, Arr Z h a c (.object Cl) ∧ Ovr Z c.cls Cl ∧ c.slots.size = N ∧ N < 2 ^ 31 ∧ ∀ j, j < N → c.slots[j]? = some (f j)
theorem Ao.av {a : Addr} {Cl : String} {N : Nat} {f : Nat → Value} (A : Ao Z h a Cl N f) : Av Z h a (.object Cl) N f := by obtain ⟨c, A, -, r⟩ := A; exact ⟨c, A, r⟩
theorem Ao.lt {a : Addr} {Cl : String} {N : Nat} {f : Nat → Value} (A : Ao Z h a Cl N f) : a < h.size := A.av.lt
theorem Ao.ext {h' : Heap} {a : Addr} {Cl : String} {N : Nat} {f : Nat → Value} (A : Ao Z h a Cl N f) (E : Ext h h') : Ao Z h' a Cl N f := by obtain ⟨c, A, r⟩ := A; exact ⟨c, A.ext E, r⟩
theorem Ao.other {h' : Heap} {a b : Addr} {Cl : String} {N sl : Nat} {v : Value} {f : Nat → Value} (A : Ao Z h b Cl N f) (W : Wr h h' a sl v) (ne : b ≠ a) : Ao Z h' b Cl N f := by obtain ⟨c, A, r⟩ := A; exact ⟨c, A.other W ne, r⟩
theorem Ao.keep {h' : Heap} {a : Addr} {Cl : String} {N : Nat} {f : Nat → Value} {ws : List Addr} (A : Ao Z h a Cl N f) (K : Keep h h' ws) (ne : a ∉ ws) : Ao Z h' a Cl N f := by obtain ⟨c, A, r⟩ := A; exact ⟨c, ⟨K.2.1 a c A.1 ne, A.2⟩, r⟩
theorem Ao.set {h' : Heap} {a : Addr} {Cl : String} {N i : Nat} {v : Value} {f : Nat → Value} (A : Ao Z h a Cl N f) (W : Wr h h' a i v) (hi : i < N) : Ao Z h' a Cl N (fun j => if j = i then v else f j) := by
  obtain ⟨c, A, O, r1, r2, r3⟩ := A
  refine ⟨c.setSlot i v, A.same W, O, by rw [sz_set]; exact r1, r2, fun j hj => ?_⟩
  by_cases e : j = i
  · subst e; simp [Cell.setSlot, r1, hi]
  · show (c.setSlot i v).slots[j]? = some (if j = i then v else f j)
    rw [if_neg e, ← r3 j hj]; simp [Cell.setSlot, Array.getElem?_setIfInBounds_ne (Ne.symm e)]
theorem Ao.sto {a y : Addr} {Cl : String} {N : Nat} {f : Nat → Value} (A : Ao Z h a Cl N f) (I : Ins Z h y Cl true) : Sto Z h a (.ref y) := by obtain ⟨c, A, O, -⟩ := A; exact Sto.of A O I
theorem Ao.new {a : Addr} {Cl : String} {cA : ClassId} {N' : Int32} (A : Arr Z h a (newA cA (.object Cl) N') (.object Cl)) (O : Ovr Z cA Cl) (hn : ¬ N' < 0) : Ao Z h a Cl N'.toNatClampNeg (fun _ => .null) :=
  ⟨_, A, O, sz_new _ _ _, (back32 hn).2, fun j hj => by simp [newA, hj, defaultValue]⟩
theorem Av.fitc {a : Addr} {ty : FieldType} {N : Nat} {f : Nat → Value} (A : Av Z h a ty N f) (hf : ∀ j, j < N → fits ty (f j) = true) : ∃ cl, Arr Z h a cl ty ∧ cl.slots.size = N ∧ N < 2 ^ 31 ∧ (∀ j, j < N → cl.slots[j]? = some (f j)) ∧ FitC Z cl := by
  obtain ⟨cl, A, r1, r2, r3⟩ := A
  refine ⟨cl, A, r1, r2, r3, fun i v hv => ?_⟩
  obtain ⟨hi, -⟩ := Array.getElem?_eq_some_iff.mp hv
  obtain ⟨hs, kk, hk, comp, hkind⟩ := A.2.1
  have e1 := r3 i (r1 ▸ hi)
  rw [hv] at e1
  cases e1
  simp [State.fitsSlot, State.slotType?, hk, hkind, hf i (r1 ▸ hi)]
theorem g_newarrayE (C : Cx p s m meth c Z own nm code ml ret) {aty : ArrayType} {N' : Int32} {cap : Nat} {ad : String} (d : decode code pc = .ok (.newarray aty, 2)) (w : (Cond.arrayClass (newarray.typeOf aty)).before a0 Z = true) (hn : ¬ N' < 0) (hcap : N'.toNatClampNeg ≤ cap) (hbg : cap * 8 ≤ 536870912) (hc : k + 1 ≤ R.cells) (hl : n + cap ≤ R.slots) (had : "[" ++ (newarray.typeOf aty).toString = ad) (hq : pc + 2 = q)
    (K : ∀ (a : Addr) (h' : Heap) (cA : ClassId), a = h.size → Ext h h' → Arr Z h' a (newA cA (newarray.typeOf aty) N') (newarray.typeOf aty) → Exa Z h' a ad → Go p l e R s m args below meth c Ph n0 h' (k + 1) (n + cap) q Ls (.ref a :: st)) : Go p l e R s m args below meth c Ph n0 h k n pc Ls (.int N' :: st) := fun T locs X N eT => by
  obtain ⟨T', h', cA, X', e', E, A, EA, stp⟩ := newPE X C.1 C.2.2.2.2.1 w eT (g := mkF m pc Ls (.int N' :: st)) rfl (hb C.2.1 d) rfl hn hcap hbg hc hl had
  obtain ⟨s₂, v, S, r⟩ := K _ h' cA rfl E A EA T' locs X' N e'
  exact ⟨s₂, v, stp _ (by subst hq; exact S), r⟩
theorem g_clone (C : Cx p s m meth c Z own nm code ml ret) {ad : String} {index W cap N : Nat} {a : Addr} {ty : FieldType} {f : Nat → Value} (d : decode code pc = .ok (.invokevirtual index, 3)) (w1 : (Cond.methodLink own index ⟨ad, "clone", "()Ljava/lang/Object;"⟩).before a0 Z = true) (w2 : (Cond.sameMethod ad "java/lang/Object" "clone" "()Ljava/lang/Object;").before a0 Z = true) (w3 : (Cond.native ⟨"java/lang/Object", "clone", "()Ljava/lang/Object;"⟩).before a0 Z = true)
    (w4 : (Cond.instanceMethod ⟨"java/lang/Object", "clone", "()Ljava/lang/Object;"⟩).before a0 Z = true) (w5 : (Cond.selects ad ⟨ad, "clone", "()Ljava/lang/Object;"⟩ ⟨"java/lang/Object", "clone", "()Ljava/lang/Object;"⟩).before a0 Z = true) (w6 : (Cond.castable ad "java/lang/Cloneable").before a0 Z = true)
    (A : Av Z h a ty N f) (hfit : ∀ j, j < N → fits ty (f j) = true) (E : Exa Z h a ad) (hsz : Ls.size = ml) (hf : 1 ≤ R.frames) (hW : (st.map fun v => v.category).sum = W) (hl : W + 14 ≤ R.locals) (hcap : N ≤ cap) (hc : k + 1 ≤ R.cells) (hsl : n + cap ≤ R.slots) (hq : pc + 3 = q)
    (K : ∀ (b : Addr) (h' : Heap), b = h.size → Ext h h' → Av Z h' b ty N f → Exa Z h' b ad → Go p l e R s m args below meth c Ph n0 h' (k + 1) (n + cap) q Ls (.ref b :: st)) : Go p l e R s m args below meth c Ph n0 h k n pc Ls (.ref a :: st) := fun T locs X N' eT => by
  obtain ⟨cl, A, r1, r2, r3, FC⟩ := A.fitc hfit
  obtain ⟨T', h', X', e', E', A', EA, stp⟩ := cloneA X C.1 C.2.2.2.2.1 C.2.2.2.1 w1 w2 w3 w4 w5 w6 eT A E FC (g := mkF m pc Ls (.ref a :: st)) rfl (hsz.trans C.2.2.1.symm) rfl (hb C.2.1 d) hf (W := W) (cap := cap) (by show 2 * 0 + _ ≤ _; rw [hW]; omega) hl (by rw [r1]; exact hcap) hc hsl
  obtain ⟨s₂, v, S, r⟩ := K _ h' rfl E' ⟨_, A', r1, r2, r3⟩ EA T' locs X' N' e'
  exact ⟨s₂, v, stp _ (by subst hq; exact S), r⟩
theorem Av.rng {a : Addr} {ty : FieldType} {N : Nat} {f : Nat → Value} (A : Av Z h a ty N f) (hf : ∀ j, j < N → fits ty (f j) = true) (dv : Value) : ∃ kA, Arv Z h a kA ty (Int32.ofNat N) ((List.range N).map f) dv :=
  A.arv (fun j hj => by simp [List.getD, hj]) (fun j hj => by simpa [List.getD, hj] using hf j hj)
theorem Av.of_arv {a : Addr} {ty : FieldType} {N : Nat} {kA : ClassId} {z : Int32} {vs : List Value} {dv : Value} (A : Arv Z h a kA ty z vs dv) (hz : z.toNatClampNeg = N) : Av Z h a ty N (fun j => vs.getD j dv) := by
  obtain ⟨c', A, -, r1, r2, H, -⟩ := A
  rw [hz] at r1
  exact ⟨c', A, r1, by rw [← hz]; exact (back32 r2).2, fun j hj => H j (by rw [r1]; exact hj)⟩
theorem nn32 {i : Nat} (hi : i < 2 ^ 31) : ¬ Int32.ofNat i < 0 := by
  rw [Int32.lt_iff_toInt_lt, Int32.toInt_ofNat_of_lt hi]; have e0 : (0 : Int32).toInt = 0 := rfl; omega
theorem g_acopy (C : Cx p s m meth c Z own nm code ml ret) {index W N M sp dp nn : Nat} {a b : Addr} {ty : FieldType} {f f' : Nat → Value} {i1 i2 i3 : Int32} (d : decode code pc = .ok (.invokestatic index, 3)) (w1 : (Cond.methodLink own index Jvm.Stand.acN).before a0 Z = true) (w2 : (Cond.native Jvm.Stand.acN).before a0 Z = true) (w3 : (Cond.static Jvm.Stand.acN).before a0 Z = true) (w4 : (Cond.initialized "java/lang/System").before a0 Z = true)
    (A : Av Z h a ty N f) (B : Av Z h b ty M f') (hrk : refKind ty = false) (hfa : ∀ j, j < N → fits ty (f j) = true) (hfb : ∀ j, j < M → fits ty (f' j) = true) (e1 : i1 = Int32.ofNat sp) (e2 : i2 = Int32.ofNat dp) (e3 : i3 = Int32.ofNat nn) (h1 : sp + nn ≤ N) (h2 : dp + nn ≤ M) (ge : n0 ≤ b) (hsz : Ls.size = ml) (hf : 1 ≤ R.frames) (hW : (st.map fun v => v.category).sum = W) (hl : W + (nativeFrameWords "java/lang/System" "arraycopy" 5 + 11) ≤ R.locals) (hq : pc + 3 = q)
    (K : ∀ (h' : Heap), Keep h h' [b] → Av Z h' b ty M (fun j => if dp ≤ j ∧ j < dp + nn then f (sp + (j - dp)) else f' j) → Go p l e R s m args below meth c Ph n0 h' k n q Ls st) : Go p l e R s m args below meth c Ph n0 h k n pc Ls (.int i3 :: .int i2 :: .ref b :: .int i1 :: .ref a :: st) := fun T locs X N' eT => by
  have hN : N < 2 ^ 31 := by obtain ⟨_, _, _, r, _⟩ := A; exact r
  have hM : M < 2 ^ 31 := by obtain ⟨_, _, _, r, _⟩ := B; exact r
  obtain ⟨kA, A1⟩ := A.rng hfa .null
  obtain ⟨kB, B1⟩ := B.rng hfb .null
  have t1 : (Int32.ofNat sp).toNatClampNeg = sp := Int32.toNatClampNeg_ofNat_of_lt (by omega)
  have t2 : (Int32.ofNat dp).toNatClampNeg = dp := Int32.toNatClampNeg_ofNat_of_lt (by omega)
  have t3 : (Int32.ofNat nn).toNatClampNeg = nn := Int32.toNatClampNeg_ofNat_of_lt (by omega)
  have t4 : (Int32.ofNat N).toNatClampNeg = N := Int32.toNatClampNeg_ofNat_of_lt hN
  have t5 : (Int32.ofNat M).toNatClampNeg = M := Int32.toNatClampNeg_ofNat_of_lt hM
  subst e1 e2 e3
  obtain ⟨T', h', L, X', e', N2, Kp, Bv, stp⟩ := cpA X C.1 C.2.2.2.2.1 C.2.2.2.1 w1 w2 w3 w4 eT A1 B1 (Or.inl ⟨rfl, hrk⟩) (nn32 (by omega)) (nn32 (by omega)) (nn32 (by omega)) (by rw [t1, t3, t4]; exact h1) (by rw [t2, t3, t5]; exact h2) rfl (by rw [t2, t3]; simpa using h2) N' ge (g := mkF m pc Ls (.int (Int32.ofNat nn) :: .int (Int32.ofNat dp) :: .ref b :: .int (Int32.ofNat sp) :: .ref a :: st)) rfl (hsz.trans C.2.2.1.symm) rfl (hb C.2.1 d) hf (W := W) (by show 2 * 0 + _ ≤ _; rw [hW]; omega) hl
  have B2 := (Av.of_arv Bv t5).congr (g := fun j => if dp ≤ j ∧ j < dp + nn then f (sp + (j - dp)) else f' j) (fun j hj => by
    rw [t1, t2, t3]
    simp only [List.getD_eq_getElem?_getD]
    by_cases c1 : j < dp
    · rw [if_neg (by omega), List.append_assoc, List.getElem?_append_left (by simp; omega), List.getElem?_take_of_lt c1]
      simp [hj]
    · by_cases c2 : j < dp + nn
      · rw [if_pos ⟨by omega, c2⟩, List.getElem?_append_left (by simp; omega), List.getElem?_append_right (by simp; omega)]
        simp [show min dp M = dp by omega, show j - dp < nn by omega, show sp + (j - dp) < N by omega]
      · rw [if_neg (by omega), List.getElem?_append_right (by simp; omega)]
        simp [show min dp M = dp by omega, show dp + nn + (j - (dp + nn)) = j by omega, hj])
  obtain ⟨s₂, v, S, r⟩ := K h' Kp B2 T' L X' N2 e'
  exact ⟨s₂, v, stp _ (by subst hq; exact S), r⟩
end GoRules
/-! ## The wide walk: literals may be loaded (the tables' interned strings grow); the Stand is over s0 with the tables of the moment -/
section GoWide
variable {p : Program} {l : Launch} {e : Env} {R : Room} {s0 : State} {vm0 : Vm} {m : MethodId} {args : Array Value} {below : List Frame} {meth : Method} {c : Code} {Ph : State → Option Value → Prop} {n0 : Nat} {h : Heap} {k n : Nat} {pc q : Nat} {Ls : Array Slot} {st rest : List Value} {Z : State} {a0 : Array Value} {own nm : String} {code : ByteArray} {ml : Nat} {ret : Option FieldType}
def Sn (s0 : State) (vm0 : Vm) (h : Heap) : Prop := ∃ k0, s0.Since vm0 k0 ∧ k0 ≤ h.size
theorem Sn.mono {h' : Heap} (S : Sn s0 vm0 h) (q : h.size ≤ h'.size) : Sn s0 vm0 h' := by obtain ⟨k0, h1, h2⟩ := S; exact ⟨k0, h1, Nat.le_trans h2 q⟩
theorem IB.warm {vm1 : Vm} {Ts : List String} (I : IB Z vm0 Ts) (hW : (s0.setVm vm0).WarmedH vm1) : IB Z vm1 Ts := by
  obtain ⟨more, e, hm⟩ := I
  exact ⟨more, (hW.interned_eq).trans e, hm⟩
def CtrW (l : Launch) (Z : State) (y : MethodName) (bytes : ByteArray) (maxL : Nat) (rt : Option FieldType) (rm : Room) (as' : Array Value) (hs : Heap) (nf : Nat) (P : Vm → Prop) (Q : Option Value → Vm → Heap → Prop) : Prop :=
  MetFree l y (head1 [Cond.code y bytes maxL rt] rm) (fun a U => a = as' ∧ Z.Warmed39 U.vm ∧ U.heap = hs ∧ P U.vm) (fun _ _ _ _ _ => True) (fun _ U o U' => ∃ v L, o = .returned v ∧ (Q v U'.vm U'.heap ∧ Fr nf L) ∧ ReturnedEndW U o U' L rm.cells rm.slots)
def FinW (s0 : State) (below : List Frame) (rm : Room) (nf : Nat) (Q : Option Value → Vm → Heap → Prop) : State → Option Value → Prop :=
  fun s₂ v => s₂.status = .running ∧ Ended s₂ below (.returned v) ∧ ∃ L, (Q v s₂.vm s₂.heap ∧ Fr nf L) ∧ ReturnedEndW s0 (.returned v) s₂ L rm.cells rm.slots
theorem CtrW.of {l : Launch} {Z : State} {y : MethodName} {bytes : ByteArray} {maxL : Nat} {rt : Option FieldType} {rm : Room} {as' : Array Value} {hs : Heap} {nf : Nat} {P : Vm → Prop} {Q : Option Value → Vm → Heap → Prop} {n1 : Nat} (Ls : Array Slot) (hp : plainFor y = true) (hE : ∀ m, entryFrame m as' maxL = mkF m 0 Ls [])
    (B : ∀ (p : Program) (e : Env) (s0 : State) (vm0 : Vm) (m : MethodId) (below : List Frame) (meth : Method) (c : Code), Cx p (s0.setVm vm0) m meth c Z y.cls y.name bytes maxL rt → s0.heap = hs → P vm0 → Sn s0 vm0 hs → Go p l e rm (s0.setVm vm0) m as' below meth c (FinW s0 below rm nf Q) n1 hs 0 0 0 Ls []) : CtrW l Z y bytes maxL rt rm as' hs nf P Q := by
  refine MetFree.of_bodySF hp hisR ?_
  intro p e s m args below meth c s₁ Bd hml0 hP hK
  obtain ⟨rfl, hZ, hh, hPv⟩ := hP
  have X0 : Stand p l e rm s m _ below meth c s₁ [] 0 0 := Stand.of_body Bd
  have e0 : s₁.heap = hs := by rw [← hh, Bd.state]; rfl
  have S0 : Sn s s.vm hs := ⟨s.heap.size, (State.WarmedH.refl s).since _, by rw [hh]; exact Nat.le_refl _⟩
  obtain ⟨s₂, v, S, r1, r2, L, r3, r4⟩ := B p e s s.vm m below meth c ⟨Bd.exec, Bd.bytes, hml0, findClass_of_methodNamed Bd.named, hZ, (name_of_methodNamed Bd.named Bd.method).1, Bd.returns, Bd.notSynchronized⟩ hh hPv S0 s₁ [] X0 (Fr.nil _) e0
  exact ⟨s₂, _, castTop (hE m) S, r1, r2, v, L, rfl, r3, r4⟩
theorem finW_of {T : State} {locs : List Loc} {rm : Room} {nf : Nat} {Q : Option Value → Vm → Heap → Prop} {v : Option Value} {st' : List Value} (C : Cx p (s0.setVm vm0) m meth c Z own nm code ml ret) (Sw : Sn s0 vm0 h) (X : Stand p l e R (s0.setVm vm0) m args below meth c T locs k n) (N : Fr n0 locs) (eT : T.heap = h) (hv : ret = none → v = none) (hn : nf ≤ n0) (hk : k ≤ rm.cells) (hl : n ≤ rm.slots) (hQ : ∀ vm1, (s0.setVm vm0).WarmedH vm1 → Q v vm1 h)
    (H : ∀ fs, (∀ (f : JFrame) (acts : List Action), f.method = m → f.locked = none → f.entered = [] → (doReturn e (T.setTop f) acts v).1 = T.setFrames fs) → Steps p.tables e below (T.setTop (mkF m pc Ls st')) (T.setFrames fs)) :
    ∃ s₂ v, Steps p.tables e below (T.setTop (mkF m pc Ls st')) s₂ ∧ FinW s0 below rm nf Q s₂ v := by
  obtain ⟨k0, hS, hk0⟩ := Sw
  obtain ⟨fs, hr, hrun, hended, h1, h2, h3, hsame⟩ := X.leaveW (v := v) hS (by rw [eT]; exact hk0) (fun hh => hv (C.2.2.2.2.2.2.1.symm.trans hh)) C.2.2.2.2.2.2.2
  exact ⟨_, v, H fs hr, hrun, hended, locs, ⟨by rw [show (T.setFrames fs).heap = h from eT]; exact hQ _ X.warmed, fun y hy => Nat.le_trans hn (N y hy)⟩, h1, h2, h3, hsame.mono hk hl⟩
theorem g_returnW {rm : Room} {nf : Nat} {Q : Option Value → Vm → Heap → Prop} (C : Cx p (s0.setVm vm0) m meth c Z own nm code ml none) (Sw : Sn s0 vm0 h) (d : decode code pc = .ok (.return_, 1)) (hn : nf ≤ n0) (hk : k ≤ rm.cells) (hl : n ≤ rm.slots) (hQ : ∀ vm1, (s0.setVm vm0).WarmedH vm1 → Q none vm1 h) : Go p l e R (s0.setVm vm0) m args below meth c (FinW s0 below rm nf Q) n0 h k n pc Ls [] :=
  fun T locs X N eT => finW_of C Sw X N eT (fun _ => rfl) hn hk hl hQ fun fs hr => X.returnOut C.1 C.2.2.2.2.2.2.1 (hb C.2.1 d) hr
theorem g_ireturnW {rm : Room} {nf : Nat} {Q : Option Value → Vm → Heap → Prop} {x : Int32} (C : Cx p (s0.setVm vm0) m meth c Z own nm code ml (some .int)) (Sw : Sn s0 vm0 h) (d : decode code pc = .ok (.ireturn, 1)) (hn : nf ≤ n0) (hk : k ≤ rm.cells) (hl : n ≤ rm.slots) (hQ : ∀ vm1, (s0.setVm vm0).WarmedH vm1 → Q (some (.int x)) vm1 h) : Go p l e R (s0.setVm vm0) m args below meth c (FinW s0 below rm nf Q) n0 h k n pc Ls (.int x :: st) :=
  fun T locs X N eT => finW_of C Sw X N eT (fun hh => nomatch hh) hn hk hl hQ fun fs hr => retI X C.1 C.2.2.2.2.2.2.1 (hb C.2.1 d) hr
theorem g_nreturnW {rm : Room} {nf : Nat} {Q : Option Value → Vm → Heap → Prop} {x z : Int32} {t : FieldType} (C : Cx p (s0.setVm vm0) m meth c Z own nm code ml (some t)) (Sw : Sn s0 vm0 h) (d : decode code pc = .ok (.ireturn, 1)) (ht : t = .boolean ∨ t = .byte ∨ t = .char ∨ t = .short) (hz : nar t x = z) (hn : nf ≤ n0) (hk : k ≤ rm.cells) (hl : n ≤ rm.slots) (hQ : ∀ vm1, (s0.setVm vm0).WarmedH vm1 → Q (some (.int z)) vm1 h) : Go p l e R (s0.setVm vm0) m args below meth c (FinW s0 below rm nf Q) n0 h k n pc Ls (.int x :: st) :=
  fun T locs X N eT => finW_of (v := some (.int z)) C Sw X N eT (fun hh => nomatch hh) hn hk hl hQ fun fs hr => retN X C.1 C.2.2.2.2.2.2.1 ht (hb C.2.1 d) (by rw [hz]; exact hr)
theorem g_areturnW {rm : Room} {nf : Nat} {Q : Option Value → Vm → Heap → Prop} {x : Value} {t : FieldType} (C : Cx p (s0.setVm vm0) m meth c Z own nm code ml (some t)) (Sw : Sn s0 vm0 h) (d : decode code pc = .ok (.areturn, 1)) (ht : t.isReference = true) (hx : x.isRef = true) (hn : nf ≤ n0) (hk : k ≤ rm.cells) (hl : n ≤ rm.slots) (hQ : ∀ vm1, (s0.setVm vm0).WarmedH vm1 → Q (some x) vm1 h) : Go p l e R (s0.setVm vm0) m args below meth c (FinW s0 below rm nf Q) n0 h k n pc Ls (x :: st) :=
  fun T locs X N eT => finW_of C Sw X N eT (fun hh => nomatch hh) hn hk hl hQ fun fs hr => retOut X C.1 C.2.2.2.2.2.2.1 (by rcases ref_cases hx with rfl | ⟨a, rfl⟩ <;> cases t <;> first | rfl | cases ht) (Or.inr (Or.inr (Or.inr (Or.inr ⟨rfl, ht, hx⟩)))) (hb C.2.1 d) hr
theorem g_ldcS (C : Cx p (s0.setVm vm0) m meth c Z own nm code ml ret) {index : Nat} {text : String} {Ts : List String} {vs : List Value} {z : Int32} {nn : Nat} (Sw : Sn s0 vm0 h) (d : decode code pc = .ok (.ldc index, 2)) (w : (Cond.stringLink own index text).before a0 Z = true) (wS : ∀ a ∈ Bundle.stringAtoms, a.before a0 Z = true) (hkeep : ∀ (b : Addr) (cl : Cell), Z.heap[b]? = some cl → s0.heap[b]? = some cl) (hn0 : s0.heap.size ≤ n0) (I : IB Z vm0 Ts) (hnot : text ∉ Ts) (hh : Jvm.Lit.constHeld Z own index) (hcw : Jvm.Lit.compactW.before a0 Z = true)
    (ht : (∀ c ∈ text.toList, c.toNat < 256) ∧ text.toList.map (fun c => Value.int (Jvm.Lit.byteI c.toNat.toUInt16)) = vs) (hz : ¬ z < 0) (hzl : z.toNatClampNeg = vs.length) (hn : 4 * text.toList.length ≤ nn) (hbig : nn ≤ 536870912) (hc : k + 2 ≤ R.cells) (hl : n + (nn + 4) ≤ R.slots) (hq : pc + 2 = q)
    (K : ∀ (a : Addr) (vm1 : Vm) (h' : Heap) (b : Addr) (kb : ClassId), Ext h h' → Cx p (s0.setVm vm1) m meth c Z own nm code ml ret → Sn s0 vm1 h' → IB Z vm1 (text :: Ts) → Lit (s0.setVm vm1) own index a → Exa Z h' a "java/lang/String" → Fld Z h' a "java/lang/String" "coder" "B" (.int 0) → Fld Z h' a "java/lang/String" "value" "[B" (.ref b) → Arv Z h' b kb .byte z vs (.int 0) → Go p l e R (s0.setVm vm1) m args below meth c Ph n0 h' (k + 2) (n + (nn + 4)) q Ls (.ref a :: st)) : Go p l e R (s0.setVm vm0) m args below meth c Ph n0 h k n pc Ls st := fun T locs X N eT => by
  obtain ⟨k0, hS, hk0⟩ := Sw
  obtain ⟨a, T', h', k1, b, kb, X', e', E, hS', hk1, hZ', hown', E1, F1, F2, A1, -, -, I', L', stp⟩ := ldcSVL X C.1 C.2.2.2.2.1 C.2.2.2.1 w wS eT hS hk0 (fun y hy => Nat.le_trans hn0 (N y hy)) hkeep I hnot hh hcw ht hz hzl (g := mkF m pc Ls st) rfl (hb C.2.1 d) hn hbig hc hl
  obtain ⟨s₂, v, S, r⟩ := K a T'.vm h' b kb E ⟨C.1, C.2.1, C.2.2.1, hown', hZ', C.2.2.2.2.2⟩ ⟨k1, hS', hk1⟩ I' L' E1 F1 F2 A1 T' locs X' N e'
  exact ⟨s₂, v, stp _ (by subst hq; exact S), r⟩
theorem g_ldcA (C : Cx p (s0.setVm vm0) m meth c Z own nm code ml ret) {index : Nat} {text : String} {a : Addr} (d : decode code pc = .ok (.ldc index, 2)) (w : (Cond.stringLink own index text).before a0 Z = true) (Lt : Lit (s0.setVm vm0) own index a) (hq : pc + 2 = q) (K : Go p l e R (s0.setVm vm0) m args below meth c Ph n0 h k n q Ls (.ref a :: st)) : Go p l e R (s0.setVm vm0) m args below meth c Ph n0 h k n pc Ls st := fun T locs X N eT => by
  obtain ⟨s₂, v, S, r⟩ := K T locs X N eT
  exact ⟨s₂, v, ldcAgain X C.1 C.2.2.2.2.1 C.2.2.2.1 w Lt (g := mkF m pc Ls st) rfl (hb C.2.1 d) _ (by subst hq; exact S), r⟩
theorem g_ldcN (C : Cx p (s0.setVm vm0) m meth c Z own nm code ml ret) {index : Nat} {text : String} {nn : Nat} (Sw : Sn s0 vm0 h) (d : decode code pc = .ok (.ldc index, 2)) (w : (Cond.stringLink own index text).before a0 Z = true) (wS : ∀ a ∈ Bundle.stringAtoms, a.before a0 Z = true) (hn : 4 * text.toList.length ≤ nn) (hbig : nn ≤ 536870912) (hc : k + 2 ≤ R.cells) (hl : n + (nn + 4) ≤ R.slots) (hq : pc + 2 = q)
    (K : ∀ (a : Addr) (vm1 : Vm) (h' : Heap), Ext h h' → Cx p (s0.setVm vm1) m meth c Z own nm code ml ret → Sn s0 vm1 h' → Go p l e R (s0.setVm vm1) m args below meth c Ph n0 h' (k + 2) (n + (nn + 4)) q Ls (.ref a :: st)) : Go p l e R (s0.setVm vm0) m args below meth c Ph n0 h k n pc Ls st := fun T locs X N eT => by
  obtain ⟨k0, hS, hk0⟩ := Sw
  obtain ⟨a, T', h', k1, X', e', E, hS', hk1, hZ', hown', stp⟩ := ldcS X C.1 C.2.2.2.2.1 C.2.2.2.1 w wS eT hS hk0 (g := mkF m pc Ls st) rfl (hb C.2.1 d) hn hbig hc hl
  obtain ⟨s₂, v, S, r⟩ := K a T'.vm h' E ⟨C.1, C.2.1, C.2.2.1, hown', hZ', C.2.2.2.2.2⟩ ⟨k1, hS', hk1⟩ T' locs X' N e'
  exact ⟨s₂, v, stp _ (by subst hq; exact S), r⟩
theorem backOfW {s : State} {y : MethodName} {bytes : ByteArray} {maxL : Nat} {rt : Option FieldType} {rm : Room} {len W : Nat} {as' : Array Value} {P : Vm → Prop} {Q : Option Value → Vm → Heap → Prop} {nf : Nat}
    (hM : CtrW l Z y bytes maxL rt rm as' h nf P Q) (hZ : Z.Warmed39 s.vm) (wc : (Cond.code y bytes maxL rt).before a0 Z = true) (wz : (Cond.initialized y.cls).before a0 Z = true) (hf : rm.frames + 1 ≤ R.frames) (hl : W + (maxL + 11) + rm.locals ≤ R.locals) :
    BackS l R p e below s args y len W (fun A a => a = as' ∧ A.U.heap = h ∧ P A.U.vm ∧ A.cells + rm.cells ≤ R.cells ∧ A.slots + rm.slots ≤ R.slots)
      (fun A _ v B => ∃ L, (Q v B.U.vm B.U.heap ∧ Fr nf L) ∧ B.locs = A.locs ++ L ∧ B.cells = A.cells + rm.cells ∧ B.slots = A.slots + rm.slots) :=
  BackS.of_freeW (bytes := bytes) (maxL := maxL) (ret := rt) (E := fun _ _ o t L k n => k = rm.cells ∧ n = rm.slots ∧ ∃ v, o = .returned v ∧ (Q v t.vm t.heap ∧ Fr nf L)) hM hf hl
    (fun m meth c A a Y hp => have hU : Z.Warmed39 A.U.vm := wtrans hZ Y.warmed
      ⟨by show (Cond.and _ .tt).before a A.U = true; rw [Cond.before_and, mv hU wc]; rfl, mv hU wc, mv hU wz, hp.2.2.2.1, hp.2.2.2.2⟩)
    (fun m meth c A a g mk Y hp => ⟨hp.1, wtrans hZ Y.warmed, hp.2.1, hp.2.2.1⟩) (fun _ _ _ _ _ _ _ _ _ => trivial)
    (fun _ _ _ _ ⟨v, L, h1, h2, h3⟩ => ⟨L, _, _, h3, rfl, rfl, v, h1, h2⟩)
    (fun m meth c A a g mk v t L k n Y hp _ _ ⟨e1, e2, v', e3, e4⟩ => by cases e3; subst e1 e2; exact ⟨L, e4, rfl, rfl, rfl⟩)
theorem g_callSW (C : Cx p (s0.setVm vm0) m meth c Z own nm code ml ret) {y : MethodName} {bytes : ByteArray} {maxL : Nat} {rt : Option FieldType} {rm : Room} {P : Vm → Prop} {Q : Option Value → Vm → Heap → Prop} {index W : Nat} {argsL : List Value} (Sw : Sn s0 vm0 h) (d : decode code pc = .ok (.invokestatic index, 3)) (w1 : (Cond.methodLink own index y).before a0 Z = true) (w2 : (Cond.static y).before a0 Z = true) (w3 : (Cond.initialized y.cls).before a0 Z = true) (w4 : (Cond.code y bytes maxL rt).before a0 Z = true) (hy : y.cls ≠ "java/lang/invoke/MethodHandle" ∧ y.cls ≠ "java/lang/invoke/VarHandle")
    (M : CtrW l Z y bytes maxL rt rm argsL.toArray h n0 P Q) (hf : rm.frames + 1 ≤ R.frames) (hl : W + (maxL + 11) + rm.locals ≤ R.locals) (hc : k + rm.cells ≤ R.cells) (hs : n + rm.slots ≤ R.slots) (hsz : Ls.size = ml) (hlen : ∀ sig, parseMethodDescriptor y.desc = some sig → argsL.length = sig.parameters.length) (hst : st = argsL.reverse ++ rest) (hW : (rest.map fun v => v.category).sum = W) (hq : pc + 3 = q)
    (hP : ∀ vm1, (s0.setVm vm0).WarmedH vm1 → P vm1) (K : ∀ v vm1 h', Q v vm1 h' → Cx p (s0.setVm vm1) m meth c Z own nm code ml ret → Sn s0 vm1 h' → (s0.setVm vm0).Warmed39 vm1 → ∃ st', st' = v.toList ++ rest ∧ Go p l e R (s0.setVm vm1) m args below meth c Ph n0 h' (k + rm.cells) (n + rm.slots) q Ls st') : Go p l e R (s0.setVm vm0) m args below meth c Ph n0 h k n pc Ls st := fun T locs X N eT => by
  have hZ := C.2.2.2.2.1
  obtain ⟨v, vm1, ⟨T', L', k', n'⟩, -, X', hS1, hle, ⟨L, ⟨hQ, NL⟩, l1, l2, l3⟩, stp⟩ := callSS X C.1 (y := y) C.2.2.2.1 (mvT hZ w1) (mvT hZ w2) (mvT hZ w3) (mvT hZ w4) hy (backOfW (W := W) M hZ w4 w3 hf hl) (g := mkF m pc Ls st) rfl (hsz.trans C.2.2.1.symm) (argsL := argsL) (rest := rest) hlen hst (by show 2 * 0 + _ ≤ _; rw [hW]; omega) (hb C.2.1 d) (fun vm1 hW1 => ⟨rfl, eT, hP vm1 hW1, hc, hs⟩)
  dsimp only [Pt.U, Pt.locs, Pt.cells, Pt.slots] at X' hS1 hle l1 l2 l3 stp
  subst l1 l2 l3
  obtain ⟨k0, hS, hk0⟩ := Sw
  have hZ1 : Z.Warmed39 T'.vm := State.Warmed39.trans (t := s0.setVm vm0) hZ hS1.1
  obtain ⟨st', hst', K'⟩ := K v _ _ hQ ⟨C.1, C.2.1, C.2.2.1, by rw [show (s0.setVm T'.vm).vm = T'.vm from rfl, hS1.1.alike.findClass]; exact C.2.2.2.1, hZ1, C.2.2.2.2.2⟩ ⟨_, foldS (T := T) hS (by rw [eT]; exact hk0) hS1 hle, Nat.le_refl _⟩ hS1.1
  obtain ⟨s₂, v', S, r⟩ := K' _ _ X' (N.app NL) rfl
  exact ⟨s₂, v', stp.trans (by subst hq hst'; exact S), r⟩
theorem g_callIW (C : Cx p (s0.setVm vm0) m meth c Z own nm code ml ret) {y : MethodName} {bytes : ByteArray} {maxL : Nat} {rm : Room} {P : Vm → Prop} {Q : Option Value → Vm → Heap → Prop} {index W : Nat} {argsL : List Value} {a : Addr} (Sw : Sn s0 vm0 h) (d : decode code pc = .ok (.invokespecial index, 3)) (hy1 : y.name = "<init>") (w1 : (Cond.methodLink own index y).before a0 Z = true) (w2 : (Cond.instanceMethod y).before a0 Z = true) (w3 : (Cond.initialized y.cls).before a0 Z = true) (w4 : (Cond.code y bytes maxL none).before a0 Z = true) (hy : y.cls ≠ "java/lang/invoke/MethodHandle" ∧ y.cls ≠ "java/lang/invoke/VarHandle")
    (M : CtrW l Z y bytes maxL none rm (.ref a :: argsL).toArray h n0 P Q) (hf : rm.frames + 1 ≤ R.frames) (hl : W + (maxL + 11) + rm.locals ≤ R.locals) (hc : k + rm.cells ≤ R.cells) (hs : n + rm.slots ≤ R.slots) (hsz : Ls.size = ml) (hlen : ∀ sig, parseMethodDescriptor y.desc = some sig → argsL.length = sig.parameters.length) (hst : st = argsL.reverse ++ .ref a :: rest) (hW : (rest.map fun v => v.category).sum = W) (hq : pc + 3 = q)
    (hP : ∀ vm1, (s0.setVm vm0).WarmedH vm1 → P vm1) (K : ∀ v vm1 h', Q v vm1 h' → Cx p (s0.setVm vm1) m meth c Z own nm code ml ret → Sn s0 vm1 h' → (s0.setVm vm0).Warmed39 vm1 → ∃ st', st' = v.toList ++ rest ∧ Go p l e R (s0.setVm vm1) m args below meth c Ph n0 h' (k + rm.cells) (n + rm.slots) q Ls st') : Go p l e R (s0.setVm vm0) m args below meth c Ph n0 h k n pc Ls st := fun T locs X N eT => by
  have hZ := C.2.2.2.2.1
  obtain ⟨v, vm1, ⟨T', L', k', n'⟩, -, X', hS1, hle, ⟨L, ⟨hQ, NL⟩, l1, l2, l3⟩, stp⟩ := X.specialBackS C.1 (y := y) hy1 C.2.2.2.1 (mvT hZ w1) (mvT hZ w2) (mvT hZ w4) hy (backOfW (W := W) M hZ w4 w3 hf hl) (g := mkF m pc Ls st) rfl (hsz.trans C.2.2.1.symm) (Steps.refl _) (a := a) (argsL := argsL) (rest := rest) hlen hst (by show 2 * 0 + _ ≤ _; rw [hW]; omega) (hb C.2.1 d) (fun vm1 hW1 => ⟨rfl, eT, hP vm1 hW1, hc, hs⟩)
  dsimp only [Pt.U, Pt.locs, Pt.cells, Pt.slots] at X' hS1 hle l1 l2 l3 stp
  subst l1 l2 l3
  obtain ⟨k0, hS, hk0⟩ := Sw
  have hZ1 : Z.Warmed39 T'.vm := State.Warmed39.trans (t := s0.setVm vm0) hZ hS1.1
  obtain ⟨st', hst', K'⟩ := K v _ _ hQ ⟨C.1, C.2.1, C.2.2.1, by rw [show (s0.setVm T'.vm).vm = T'.vm from rfl, hS1.1.alike.findClass]; exact C.2.2.2.1, hZ1, C.2.2.2.2.2⟩ ⟨_, foldS (T := T) hS (by rw [eT]; exact hk0) hS1 hle, Nat.le_refl _⟩ hS1.1
  obtain ⟨s₂, v', S, r⟩ := K' _ _ X' (N.app NL) rfl
  exact ⟨s₂, v', stp.trans (by subst hq hst'; exact S), r⟩
theorem g_callVW (C : Cx p (s0.setVm vm0) m meth c Z own nm code ml ret) {y : MethodName} {bytes : ByteArray} {maxL : Nat} {rt : Option FieldType} {rm : Room} {P : Vm → Prop} {Q : Option Value → Vm → Heap → Prop} {index W : Nat} {argsL : List Value} {y0 : MethodName} {Cl : String} {a : Addr} (Sw : Sn s0 vm0 h) (d : decode code pc = .ok (.invokevirtual index, 3)) (w1 : (Cond.methodLink own index y0).before a0 Z = true) (w2 : (Cond.declares y0).before a0 Z = true) (w5 : (Cond.selects Cl y0 y).before a0 Z = true) (w6 : (Cond.instanceMethod y).before a0 Z = true) (w3 : (Cond.initialized y.cls).before a0 Z = true) (w4 : (Cond.code y bytes maxL rt).before a0 Z = true) (hy : y0.cls ≠ "java/lang/invoke/MethodHandle" ∧ y0.cls ≠ "java/lang/invoke/VarHandle") (hnf : NotFace (s0.setVm vm0) y0)
    (E : Exa Z h a Cl) (M : CtrW l Z y bytes maxL rt rm (.ref a :: argsL).toArray h n0 P Q) (hf : rm.frames + 1 ≤ R.frames) (hl : W + (maxL + 11) + rm.locals ≤ R.locals) (hc : k + rm.cells ≤ R.cells) (hs : n + rm.slots ≤ R.slots) (hsz : Ls.size = ml) (hlen : ∀ sig, parseMethodDescriptor y0.desc = some sig → argsL.length = sig.parameters.length) (hst : st = argsL.reverse ++ .ref a :: rest) (hW : (rest.map fun v => v.category).sum = W) (hq : pc + 3 = q)
    (hP : ∀ vm1, (s0.setVm vm0).WarmedH vm1 → P vm1) (K : ∀ v vm1 h', Q v vm1 h' → Cx p (s0.setVm vm1) m meth c Z own nm code ml ret → Sn s0 vm1 h' → (s0.setVm vm0).Warmed39 vm1 → ∃ st', st' = v.toList ++ rest ∧ Go p l e R (s0.setVm vm1) m args below meth c Ph n0 h' (k + rm.cells) (n + rm.slots) q Ls st') : Go p l e R (s0.setVm vm0) m args below meth c Ph n0 h k n pc Ls st := fun T locs X N eT => by
  have hZ := C.2.2.2.2.1
  obtain ⟨cq, kq, qa, qb, qc⟩ := isOf hZ eT E
  obtain ⟨v, vm1, ⟨T', L', k', n'⟩, -, X', hS1, hle, ⟨L, ⟨hQ, NL⟩, l1, l2, l3⟩, stp⟩ := X.virtualBackS C.1 (y := y0) (z := y) C.2.2.2.1 (mvT hZ w1) (mvT hZ w2) hnf (mvT hZ w5) (mvT hZ w6) hy (backOfW (W := W) M hZ w4 w3 hf hl) qa qc (g := mkF m pc Ls st) rfl (hsz.trans C.2.2.1.symm) (Steps.refl _) (argsL := argsL) (rest := rest) hlen hst (by show 2 * 0 + _ ≤ _; rw [hW]; omega) (hb C.2.1 d) (fun vm1 hW1 => ⟨rfl, eT, hP vm1 hW1, hc, hs⟩)
  dsimp only [Pt.U, Pt.locs, Pt.cells, Pt.slots] at X' hS1 hle l1 l2 l3 stp
  subst l1 l2 l3
  obtain ⟨k0, hS, hk0⟩ := Sw
  have hZ1 : Z.Warmed39 T'.vm := State.Warmed39.trans (t := s0.setVm vm0) hZ hS1.1
  obtain ⟨st', hst', K'⟩ := K v _ _ hQ ⟨C.1, C.2.1, C.2.2.1, by rw [show (s0.setVm T'.vm).vm = T'.vm from rfl, hS1.1.alike.findClass]; exact C.2.2.2.1, hZ1, C.2.2.2.2.2⟩ ⟨_, foldS (T := T) hS (by rw [eT]; exact hk0) hS1 hle, Nat.le_refl _⟩ hS1.1
  obtain ⟨s₂, v', S, r⟩ := K' _ _ X' (N.app NL) rfl
  exact ⟨s₂, v', stp.trans (by subst hq hst'; exact S), r⟩
end GoWide
end Jvm.Pilot.@@N@@

namespace Jvm.Pilot.@@N@@
open Jvm Jvm.ClassFile Sem Op Lib Jvm.Free Jvm.Stand Jvm.LawKit Jvm.RoadKit Bundle Jvm.Pilot.@@N@@.Jvm.D
theorem wd0 {Z : State} {a0 : Array Value} (hw : ∀ d ∈ tables_1, d.before a0 Z = true) : (Jvm.Cond.constant "hornwright/model/Utf8OrderComparePinLaw" (7 : Nat) (2147483647 : Int32)).before a0 Z = true := hw _ (List.mem_of_getElem? (i := 0) rfl)
theorem wd1 {Z : State} {a0 : Array Value} (hw : ∀ d ∈ tables_1, d.before a0 Z = true) : (Jvm.Cond.methodLink "hornwright/model/Utf8OrderComparePinLaw" (8 : Nat) ({ cls := "hornwright/model/Utf8OrderComparePinLaw", name := "mk", desc := "(ICC)Ljava/lang/String;" } : Jvm.MethodName)).before a0 Z = true := hw _ (List.mem_of_getElem? (i := 1) rfl)
theorem wd2 {Z : State} {a0 : Array Value} (hw : ∀ d ∈ tables_1, d.before a0 Z = true) : (Jvm.Cond.static ({ cls := "hornwright/model/Utf8OrderComparePinLaw", name := "mk", desc := "(ICC)Ljava/lang/String;" } : Jvm.MethodName)).before a0 Z = true := hw _ (List.mem_of_getElem? (i := 2) rfl)
theorem wd3 {Z : State} {a0 : Array Value} (hw : ∀ d ∈ tables_1, d.before a0 Z = true) : (Jvm.Cond.initialized "hornwright/model/Utf8OrderComparePinLaw").before a0 Z = true := hw _ (List.mem_of_getElem? (i := 3) rfl)
theorem wd4 {Z : State} {a0 : Array Value} (hw : ∀ d ∈ tables_1, d.before a0 Z = true) : (Jvm.Cond.code ({ cls := "hornwright/model/Utf8OrderComparePinLaw", name := "mk", desc := "(ICC)Ljava/lang/String;" } : Jvm.MethodName) method_3_code (4 : Nat) (Option.some (Jvm.ClassFile.FieldType.object "java/lang/String"))).before a0 Z = true := hw _ (List.mem_of_getElem? (i := 4) rfl)
theorem wd5 {Z : State} {a0 : Array Value} (hw : ∀ d ∈ tables_1, d.before a0 Z = true) : (Jvm.Cond.stringLink "hornwright/model/Utf8OrderComparePinLaw" (28 : Nat) "").before a0 Z = true := hw _ (List.mem_of_getElem? (i := 5) rfl)
theorem wd6 {Z : State} {a0 : Array Value} (hw : ∀ d ∈ tables_1, d.before a0 Z = true) : (Jvm.Cond.initialized "java/lang/String").before a0 Z = true := hw _ (List.mem_of_getElem? (i := 6) rfl)
theorem wd7 {Z : State} {a0 : Array Value} (hw : ∀ d ∈ tables_1, d.before a0 Z = true) : (Jvm.Cond.instantiable "java/lang/String" (4 : Nat)).before a0 Z = true := hw _ (List.mem_of_getElem? (i := 7) rfl)
theorem wd8 {Z : State} {a0 : Array Value} (hw : ∀ d ∈ tables_1, d.before a0 Z = true) : (Jvm.Cond.arrayClass Jvm.ClassFile.FieldType.byte).before a0 Z = true := hw _ (List.mem_of_getElem? (i := 8) rfl)
theorem wd9 {Z : State} {a0 : Array Value} (hw : ∀ d ∈ tables_1, d.before a0 Z = true) : (Jvm.Cond.laysFinal "java/lang/String" "java/lang/String" "value" "[B").before a0 Z = true := hw _ (List.mem_of_getElem? (i := 9) rfl)
theorem wd10 {Z : State} {a0 : Array Value} (hw : ∀ d ∈ tables_1, d.before a0 Z = true) : (Jvm.Cond.laysFinal "java/lang/String" "java/lang/String" "coder" "B").before a0 Z = true := hw _ (List.mem_of_getElem? (i := 10) rfl)
theorem wd13 {Z : State} {a0 : Array Value} (hw : ∀ d ∈ tables_1, d.before a0 Z = true) : (Jvm.Cond.methodLink "hornwright/model/Utf8OrderComparePinLaw" (14 : Nat) ({ cls := "hornwright/model/Utf8OrderComparePinLaw", name := "expect", desc := "(ICCICC)I" } : Jvm.MethodName)).before a0 Z = true := hw _ (List.mem_of_getElem? (i := 13) rfl)
theorem wd14 {Z : State} {a0 : Array Value} (hw : ∀ d ∈ tables_1, d.before a0 Z = true) : (Jvm.Cond.static ({ cls := "hornwright/model/Utf8OrderComparePinLaw", name := "expect", desc := "(ICCICC)I" } : Jvm.MethodName)).before a0 Z = true := hw _ (List.mem_of_getElem? (i := 14) rfl)
theorem wd15 {Z : State} {a0 : Array Value} (hw : ∀ d ∈ tables_1, d.before a0 Z = true) : (Jvm.Cond.code ({ cls := "hornwright/model/Utf8OrderComparePinLaw", name := "expect", desc := "(ICCICC)I" } : Jvm.MethodName) method_6_code (6 : Nat) (Option.some Jvm.ClassFile.FieldType.int)).before a0 Z = true := hw _ (List.mem_of_getElem? (i := 15) rfl)
theorem wd16 {Z : State} {a0 : Array Value} (hw : ∀ d ∈ tables_1, d.before a0 Z = true) : (Jvm.Cond.methodLink "hornwright/model/Utf8OrderComparePinLaw" (24 : Nat) ({ cls := "hornwright/model/Utf8OrderComparePinLaw", name := "sign", desc := "(I)I" } : Jvm.MethodName)).before a0 Z = true := hw _ (List.mem_of_getElem? (i := 16) rfl)
theorem wd17 {Z : State} {a0 : Array Value} (hw : ∀ d ∈ tables_1, d.before a0 Z = true) : (Jvm.Cond.static ({ cls := "hornwright/model/Utf8OrderComparePinLaw", name := "sign", desc := "(I)I" } : Jvm.MethodName)).before a0 Z = true := hw _ (List.mem_of_getElem? (i := 17) rfl)
theorem wd18 {Z : State} {a0 : Array Value} (hw : ∀ d ∈ tables_1, d.before a0 Z = true) : (Jvm.Cond.code ({ cls := "hornwright/model/Utf8OrderComparePinLaw", name := "sign", desc := "(I)I" } : Jvm.MethodName) method_5_code (1 : Nat) (Option.some Jvm.ClassFile.FieldType.int)).before a0 Z = true := hw _ (List.mem_of_getElem? (i := 18) rfl)
theorem wd19 {Z : State} {a0 : Array Value} (hw : ∀ d ∈ tables_1, d.before a0 Z = true) : (Jvm.Cond.methodLink "hornwright/model/Utf8OrderComparePinLaw" (18 : Nat) ({ cls := "hornwright/model/Utf8Order", name := "compare", desc := "(Ljava/lang/String;Ljava/lang/String;)I" } : Jvm.MethodName)).before a0 Z = true := hw _ (List.mem_of_getElem? (i := 19) rfl)
theorem wd20 {Z : State} {a0 : Array Value} (hw : ∀ d ∈ tables_1, d.before a0 Z = true) : (Jvm.Cond.static ({ cls := "hornwright/model/Utf8Order", name := "compare", desc := "(Ljava/lang/String;Ljava/lang/String;)I" } : Jvm.MethodName)).before a0 Z = true := hw _ (List.mem_of_getElem? (i := 20) rfl)
theorem wd21 {Z : State} {a0 : Array Value} (hw : ∀ d ∈ tables_1, d.before a0 Z = true) : (Jvm.Cond.initialized "hornwright/model/Utf8Order").before a0 Z = true := hw _ (List.mem_of_getElem? (i := 21) rfl)
theorem wd22 {Z : State} {a0 : Array Value} (hw : ∀ d ∈ tables_1, d.before a0 Z = true) : (Jvm.Cond.code ({ cls := "hornwright/model/Utf8Order", name := "compare", desc := "(Ljava/lang/String;Ljava/lang/String;)I" } : Jvm.MethodName) prog_52_method_2_code (6 : Nat) (Option.some Jvm.ClassFile.FieldType.int)).before a0 Z = true := hw _ (List.mem_of_getElem? (i := 22) rfl)
theorem wd23 {Z : State} {a0 : Array Value} (hw : ∀ d ∈ tables_1, d.before a0 Z = true) : (Jvm.Cond.methodLink "hornwright/model/Utf8Order" (7 : Nat) ({ cls := "java/lang/String", name := "length", desc := "()I" } : Jvm.MethodName)).before a0 Z = true := hw _ (List.mem_of_getElem? (i := 23) rfl)
theorem wd24 {Z : State} {a0 : Array Value} (hw : ∀ d ∈ tables_1, d.before a0 Z = true) : (Jvm.Cond.declares ({ cls := "java/lang/String", name := "length", desc := "()I" } : Jvm.MethodName)).before a0 Z = true := hw _ (List.mem_of_getElem? (i := 24) rfl)
theorem wd25 {Z : State} {a0 : Array Value} (hw : ∀ d ∈ tables_1, d.before a0 Z = true) : (Jvm.Cond.instanceMethod ({ cls := "java/lang/String", name := "length", desc := "()I" } : Jvm.MethodName)).before a0 Z = true := hw _ (List.mem_of_getElem? (i := 25) rfl)
theorem wd26 {Z : State} {a0 : Array Value} (hw : ∀ d ∈ tables_1, d.before a0 Z = true) : (Jvm.Cond.selects "java/lang/String" ({ cls := "java/lang/String", name := "length", desc := "()I" } : Jvm.MethodName) ({ cls := "java/lang/String", name := "length", desc := "()I" } : Jvm.MethodName)).before a0 Z = true := hw _ (List.mem_of_getElem? (i := 26) rfl)
theorem wd27 {Z : State} {a0 : Array Value} (hw : ∀ d ∈ tables_1, d.before a0 Z = true) : (Jvm.Cond.code ({ cls := "java/lang/String", name := "length", desc := "()I" } : Jvm.MethodName) jdk_42_method_54_code (1 : Nat) (Option.some Jvm.ClassFile.FieldType.int)).before a0 Z = true := hw _ (List.mem_of_getElem? (i := 27) rfl)
theorem wd28 {Z : State} {a0 : Array Value} (hw : ∀ d ∈ tables_1, d.before a0 Z = true) : (Jvm.Cond.fieldLink "java/lang/String" (9 : Nat) "java/lang/String" "value" "[B").before a0 Z = true := hw _ (List.mem_of_getElem? (i := 28) rfl)
theorem wd29 {Z : State} {a0 : Array Value} (hw : ∀ d ∈ tables_1, d.before a0 Z = true) : (Jvm.Cond.methodLink "java/lang/String" (335 : Nat) ({ cls := "java/lang/String", name := "coder", desc := "()B" } : Jvm.MethodName)).before a0 Z = true := hw _ (List.mem_of_getElem? (i := 29) rfl)
theorem wd30 {Z : State} {a0 : Array Value} (hw : ∀ d ∈ tables_1, d.before a0 Z = true) : (Jvm.Cond.declares ({ cls := "java/lang/String", name := "coder", desc := "()B" } : Jvm.MethodName)).before a0 Z = true := hw _ (List.mem_of_getElem? (i := 30) rfl)
theorem wd31 {Z : State} {a0 : Array Value} (hw : ∀ d ∈ tables_1, d.before a0 Z = true) : (Jvm.Cond.instanceMethod ({ cls := "java/lang/String", name := "coder", desc := "()B" } : Jvm.MethodName)).before a0 Z = true := hw _ (List.mem_of_getElem? (i := 31) rfl)
theorem wd32 {Z : State} {a0 : Array Value} (hw : ∀ d ∈ tables_1, d.before a0 Z = true) : (Jvm.Cond.selects "java/lang/String" ({ cls := "java/lang/String", name := "coder", desc := "()B" } : Jvm.MethodName) ({ cls := "java/lang/String", name := "coder", desc := "()B" } : Jvm.MethodName)).before a0 Z = true := hw _ (List.mem_of_getElem? (i := 32) rfl)
theorem wd33 {Z : State} {a0 : Array Value} (hw : ∀ d ∈ tables_1, d.before a0 Z = true) : (Jvm.Cond.code ({ cls := "java/lang/String", name := "coder", desc := "()B" } : Jvm.MethodName) jdk_42_method_152_code (1 : Nat) (Option.some Jvm.ClassFile.FieldType.byte)).before a0 Z = true := hw _ (List.mem_of_getElem? (i := 33) rfl)
theorem wd34 {Z : State} {a0 : Array Value} (hw : ∀ d ∈ tables_1, d.before a0 Z = true) : (Jvm.Cond.fieldLink "java/lang/String" (38 : Nat) "java/lang/String" "COMPACT_STRINGS" "Z").before a0 Z = true := hw _ (List.mem_of_getElem? (i := 34) rfl)
theorem wd35 {Z : State} {a0 : Array Value} (hw : ∀ d ∈ tables_1, d.before a0 Z = true) : (Jvm.Cond.fieldLink "java/lang/String" (15 : Nat) "java/lang/String" "coder" "B").before a0 Z = true := hw _ (List.mem_of_getElem? (i := 35) rfl)
theorem wd36 {Z : State} {a0 : Array Value} (hw : ∀ d ∈ tables_1, d.before a0 Z = true) : (Jvm.Cond.methodLink "hornwright/model/Utf8Order" (13 : Nat) ({ cls := "java/lang/Math", name := "min", desc := "(II)I" } : Jvm.MethodName)).before a0 Z = true := hw _ (List.mem_of_getElem? (i := 36) rfl)
theorem wd37 {Z : State} {a0 : Array Value} (hw : ∀ d ∈ tables_1, d.before a0 Z = true) : (Jvm.Cond.static ({ cls := "java/lang/Math", name := "min", desc := "(II)I" } : Jvm.MethodName)).before a0 Z = true := hw _ (List.mem_of_getElem? (i := 37) rfl)
theorem wd38 {Z : State} {a0 : Array Value} (hw : ∀ d ∈ tables_1, d.before a0 Z = true) : (Jvm.Cond.initialized "java/lang/Math").before a0 Z = true := hw _ (List.mem_of_getElem? (i := 38) rfl)
theorem wd39 {Z : State} {a0 : Array Value} (hw : ∀ d ∈ tables_1, d.before a0 Z = true) : (Jvm.Cond.code ({ cls := "java/lang/Math", name := "min", desc := "(II)I" } : Jvm.MethodName) jdk_29_method_69_code (2 : Nat) (Option.some Jvm.ClassFile.FieldType.int)).before a0 Z = true := hw _ (List.mem_of_getElem? (i := 39) rfl)
theorem wd40 {Z : State} {a0 : Array Value} (hw : ∀ d ∈ tables_1, d.before a0 Z = true) : (Jvm.Cond.methodLink "hornwright/model/Utf8Order" (29 : Nat) ({ cls := "java/lang/Integer", name := "compare", desc := "(II)I" } : Jvm.MethodName)).before a0 Z = true := hw _ (List.mem_of_getElem? (i := 40) rfl)
theorem wd41 {Z : State} {a0 : Array Value} (hw : ∀ d ∈ tables_1, d.before a0 Z = true) : (Jvm.Cond.static ({ cls := "java/lang/Integer", name := "compare", desc := "(II)I" } : Jvm.MethodName)).before a0 Z = true := hw _ (List.mem_of_getElem? (i := 41) rfl)
theorem wd42 {Z : State} {a0 : Array Value} (hw : ∀ d ∈ tables_1, d.before a0 Z = true) : (Jvm.Cond.initialized "java/lang/Integer").before a0 Z = true := hw _ (List.mem_of_getElem? (i := 42) rfl)
theorem wd43 {Z : State} {a0 : Array Value} (hw : ∀ d ∈ tables_1, d.before a0 Z = true) : (Jvm.Cond.code ({ cls := "java/lang/Integer", name := "compare", desc := "(II)I" } : Jvm.MethodName) jdk_33_method_40_code (2 : Nat) (Option.some Jvm.ClassFile.FieldType.int)).before a0 Z = true := hw _ (List.mem_of_getElem? (i := 43) rfl)
theorem wd44 {Z : State} {a0 : Array Value} (hw : ∀ d ∈ tables_1, d.before a0 Z = true) : (Jvm.Cond.methodLink "hornwright/model/Utf8OrderComparePinLaw" (30 : Nat) ({ cls := "java/lang/String", name := "valueOf", desc := "(C)Ljava/lang/String;" } : Jvm.MethodName)).before a0 Z = true := hw _ (List.mem_of_getElem? (i := 44) rfl)
theorem wd45 {Z : State} {a0 : Array Value} (hw : ∀ d ∈ tables_1, d.before a0 Z = true) : (Jvm.Cond.static ({ cls := "java/lang/String", name := "valueOf", desc := "(C)Ljava/lang/String;" } : Jvm.MethodName)).before a0 Z = true := hw _ (List.mem_of_getElem? (i := 45) rfl)
theorem wd46 {Z : State} {a0 : Array Value} (hw : ∀ d ∈ tables_1, d.before a0 Z = true) : (Jvm.Cond.code ({ cls := "java/lang/String", name := "valueOf", desc := "(C)Ljava/lang/String;" } : Jvm.MethodName) jdk_42_method_139_code (1 : Nat) (Option.some (Jvm.ClassFile.FieldType.object "java/lang/String"))).before a0 Z = true := hw _ (List.mem_of_getElem? (i := 46) rfl)
theorem wd47 {Z : State} {a0 : Array Value} (hw : ∀ d ∈ tables_1, d.before a0 Z = true) : (Jvm.Cond.methodLink "java/lang/String" (1015 : Nat) ({ cls := "java/lang/StringLatin1", name := "canEncode", desc := "(C)Z" } : Jvm.MethodName)).before a0 Z = true := hw _ (List.mem_of_getElem? (i := 47) rfl)
theorem wd48 {Z : State} {a0 : Array Value} (hw : ∀ d ∈ tables_1, d.before a0 Z = true) : (Jvm.Cond.static ({ cls := "java/lang/StringLatin1", name := "canEncode", desc := "(C)Z" } : Jvm.MethodName)).before a0 Z = true := hw _ (List.mem_of_getElem? (i := 48) rfl)
theorem wd49 {Z : State} {a0 : Array Value} (hw : ∀ d ∈ tables_1, d.before a0 Z = true) : (Jvm.Cond.initialized "java/lang/StringLatin1").before a0 Z = true := hw _ (List.mem_of_getElem? (i := 49) rfl)
theorem wd50 {Z : State} {a0 : Array Value} (hw : ∀ d ∈ tables_1, d.before a0 Z = true) : (Jvm.Cond.code ({ cls := "java/lang/StringLatin1", name := "canEncode", desc := "(C)Z" } : Jvm.MethodName) jdk_43_method_3_code (1 : Nat) (Option.some Jvm.ClassFile.FieldType.boolean)).before a0 Z = true := hw _ (List.mem_of_getElem? (i := 50) rfl)
theorem wd51 {Z : State} {a0 : Array Value} (hw : ∀ d ∈ tables_1, d.before a0 Z = true) : (Jvm.Cond.classLink "java/lang/String" (10 : Nat) "java/lang/String").before a0 Z = true := hw _ (List.mem_of_getElem? (i := 51) rfl)
theorem wd52 {Z : State} {a0 : Array Value} (hw : ∀ d ∈ tables_1, d.before a0 Z = true) : (Jvm.Cond.methodLink "java/lang/String" (1018 : Nat) ({ cls := "java/lang/StringLatin1", name := "toBytes", desc := "(C)[B" } : Jvm.MethodName)).before a0 Z = true := hw _ (List.mem_of_getElem? (i := 52) rfl)
theorem wd53 {Z : State} {a0 : Array Value} (hw : ∀ d ∈ tables_1, d.before a0 Z = true) : (Jvm.Cond.static ({ cls := "java/lang/StringLatin1", name := "toBytes", desc := "(C)[B" } : Jvm.MethodName)).before a0 Z = true := hw _ (List.mem_of_getElem? (i := 53) rfl)
theorem wd54 {Z : State} {a0 : Array Value} (hw : ∀ d ∈ tables_1, d.before a0 Z = true) : (Jvm.Cond.code ({ cls := "java/lang/StringLatin1", name := "toBytes", desc := "(C)[B" } : Jvm.MethodName) jdk_43_method_46_code (1 : Nat) (Option.some (Jvm.ClassFile.FieldType.array Jvm.ClassFile.FieldType.byte))).before a0 Z = true := hw _ (List.mem_of_getElem? (i := 54) rfl)
theorem wd55 {Z : State} {a0 : Array Value} (hw : ∀ d ∈ tables_1, d.before a0 Z = true) : (Jvm.Cond.methodLink "java/lang/String" (209 : Nat) ({ cls := "java/lang/String", name := "<init>", desc := "([BB)V" } : Jvm.MethodName)).before a0 Z = true := hw _ (List.mem_of_getElem? (i := 55) rfl)
theorem wd56 {Z : State} {a0 : Array Value} (hw : ∀ d ∈ tables_1, d.before a0 Z = true) : (Jvm.Cond.instanceMethod ({ cls := "java/lang/String", name := "<init>", desc := "([BB)V" } : Jvm.MethodName)).before a0 Z = true := hw _ (List.mem_of_getElem? (i := 56) rfl)
theorem wd58 {Z : State} {a0 : Array Value} (hw : ∀ d ∈ tables_1, d.before a0 Z = true) : (Jvm.Cond.code ({ cls := "java/lang/String", name := "<init>", desc := "([BB)V" } : Jvm.MethodName) jdk_42_method_151_code (3 : Nat) (Option.none : Option Jvm.ClassFile.FieldType)).before a0 Z = true := hw _ (List.mem_of_getElem? (i := 58) rfl)
theorem wd59 {Z : State} {a0 : Array Value} (hw : ∀ d ∈ tables_1, d.before a0 Z = true) : (Jvm.Cond.methodLink "java/lang/String" (1 : Nat) ({ cls := "java/lang/Object", name := "<init>", desc := "()V" } : Jvm.MethodName)).before a0 Z = true := hw _ (List.mem_of_getElem? (i := 59) rfl)
theorem wd60 {Z : State} {a0 : Array Value} (hw : ∀ d ∈ tables_1, d.before a0 Z = true) : (Jvm.Cond.instanceMethod ({ cls := "java/lang/Object", name := "<init>", desc := "()V" } : Jvm.MethodName)).before a0 Z = true := hw _ (List.mem_of_getElem? (i := 60) rfl)
theorem wd61 {Z : State} {a0 : Array Value} (hw : ∀ d ∈ tables_1, d.before a0 Z = true) : (Jvm.Cond.code ({ cls := "java/lang/Object", name := "<init>", desc := "()V" } : Jvm.MethodName) object_method_1_code (1 : Nat) (Option.none : Option Jvm.ClassFile.FieldType)).before a0 Z = true := hw _ (List.mem_of_getElem? (i := 61) rfl)
theorem wd62 {Z : State} {a0 : Array Value} (hw : ∀ d ∈ tables_1, d.before a0 Z = true) : (Jvm.Cond.methodLink "java/lang/String" (1021 : Nat) ({ cls := "java/lang/StringUTF16", name := "toBytes", desc := "(C)[B" } : Jvm.MethodName)).before a0 Z = true := hw _ (List.mem_of_getElem? (i := 62) rfl)
theorem wd63 {Z : State} {a0 : Array Value} (hw : ∀ d ∈ tables_1, d.before a0 Z = true) : (Jvm.Cond.static ({ cls := "java/lang/StringUTF16", name := "toBytes", desc := "(C)[B" } : Jvm.MethodName)).before a0 Z = true := hw _ (List.mem_of_getElem? (i := 63) rfl)
theorem wd64 {Z : State} {a0 : Array Value} (hw : ∀ d ∈ tables_1, d.before a0 Z = true) : (Jvm.Cond.initialized "java/lang/StringUTF16").before a0 Z = true := hw _ (List.mem_of_getElem? (i := 64) rfl)
theorem wd65 {Z : State} {a0 : Array Value} (hw : ∀ d ∈ tables_1, d.before a0 Z = true) : (Jvm.Cond.code ({ cls := "java/lang/StringUTF16", name := "toBytes", desc := "(C)[B" } : Jvm.MethodName) jdk_52_method_24_code (2 : Nat) (Option.some (Jvm.ClassFile.FieldType.array Jvm.ClassFile.FieldType.byte))).before a0 Z = true := hw _ (List.mem_of_getElem? (i := 65) rfl)
theorem wd66 {Z : State} {a0 : Array Value} (hw : ∀ d ∈ tables_1, d.before a0 Z = true) : (Jvm.Cond.methodLink "java/lang/StringUTF16" (111 : Nat) ({ cls := "java/lang/StringUTF16", name := "putChar", desc := "([BII)V" } : Jvm.MethodName)).before a0 Z = true := hw _ (List.mem_of_getElem? (i := 66) rfl)
theorem wd67 {Z : State} {a0 : Array Value} (hw : ∀ d ∈ tables_1, d.before a0 Z = true) : (Jvm.Cond.static ({ cls := "java/lang/StringUTF16", name := "putChar", desc := "([BII)V" } : Jvm.MethodName)).before a0 Z = true := hw _ (List.mem_of_getElem? (i := 67) rfl)
theorem wd68 {Z : State} {a0 : Array Value} (hw : ∀ d ∈ tables_1, d.before a0 Z = true) : (Jvm.Cond.code ({ cls := "java/lang/StringUTF16", name := "putChar", desc := "([BII)V" } : Jvm.MethodName) jdk_52_method_4_code (3 : Nat) (Option.none : Option Jvm.ClassFile.FieldType)).before a0 Z = true := hw _ (List.mem_of_getElem? (i := 68) rfl)
theorem wd69 {Z : State} {a0 : Array Value} (hw : ∀ d ∈ tables_1, d.before a0 Z = true) : (Jvm.Cond.fieldLink "java/lang/StringUTF16" (44 : Nat) "java/lang/StringUTF16" "$assertionsDisabled" "Z").before a0 Z = true := hw _ (List.mem_of_getElem? (i := 69) rfl)
theorem wd70 {Z : State} {a0 : Array Value} (hw : ∀ d ∈ tables_1, d.before a0 Z = true) : (Jvm.Cond.fieldLink "java/lang/StringUTF16" (59 : Nat) "java/lang/StringUTF16" "HI_BYTE_SHIFT" "I").before a0 Z = true := hw _ (List.mem_of_getElem? (i := 70) rfl)
theorem wd71 {Z : State} {a0 : Array Value} (hw : ∀ d ∈ tables_1, d.before a0 Z = true) : (Jvm.Cond.fieldLink "java/lang/StringUTF16" (63 : Nat) "java/lang/StringUTF16" "LO_BYTE_SHIFT" "I").before a0 Z = true := hw _ (List.mem_of_getElem? (i := 71) rfl)
theorem wd72 {Z : State} {a0 : Array Value} (hw : ∀ d ∈ tables_1, d.before a0 Z = true) : (Jvm.Cond.arrayClass Jvm.ClassFile.FieldType.char).before a0 Z = true := hw _ (List.mem_of_getElem? (i := 72) rfl)
theorem wd73 {Z : State} {a0 : Array Value} (hw : ∀ d ∈ tables_1, d.before a0 Z = true) : (Jvm.Cond.classLink "hornwright/model/Utf8OrderComparePinLaw" (31 : Nat) "java/lang/String").before a0 Z = true := hw _ (List.mem_of_getElem? (i := 73) rfl)
theorem wd74 {Z : State} {a0 : Array Value} (hw : ∀ d ∈ tables_1, d.before a0 Z = true) : (Jvm.Cond.methodLink "hornwright/model/Utf8OrderComparePinLaw" (36 : Nat) ({ cls := "java/lang/String", name := "<init>", desc := "([C)V" } : Jvm.MethodName)).before a0 Z = true := hw _ (List.mem_of_getElem? (i := 74) rfl)
theorem wd75 {Z : State} {a0 : Array Value} (hw : ∀ d ∈ tables_1, d.before a0 Z = true) : (Jvm.Cond.instanceMethod ({ cls := "java/lang/String", name := "<init>", desc := "([C)V" } : Jvm.MethodName)).before a0 Z = true := hw _ (List.mem_of_getElem? (i := 75) rfl)
theorem wd76 {Z : State} {a0 : Array Value} (hw : ∀ d ∈ tables_1, d.before a0 Z = true) : (Jvm.Cond.code ({ cls := "java/lang/String", name := "<init>", desc := "([C)V" } : Jvm.MethodName) jdk_42_method_3_code (2 : Nat) (Option.none : Option Jvm.ClassFile.FieldType)).before a0 Z = true := hw _ (List.mem_of_getElem? (i := 76) rfl)
theorem wd77 {Z : State} {a0 : Array Value} (hw : ∀ d ∈ tables_1, d.before a0 Z = true) : (Jvm.Cond.methodLink "java/lang/String" (27 : Nat) ({ cls := "java/lang/String", name := "<init>", desc := "([CIILjava/lang/Void;)V" } : Jvm.MethodName)).before a0 Z = true := hw _ (List.mem_of_getElem? (i := 77) rfl)
theorem wd78 {Z : State} {a0 : Array Value} (hw : ∀ d ∈ tables_1, d.before a0 Z = true) : (Jvm.Cond.instanceMethod ({ cls := "java/lang/String", name := "<init>", desc := "([CIILjava/lang/Void;)V" } : Jvm.MethodName)).before a0 Z = true := hw _ (List.mem_of_getElem? (i := 78) rfl)
theorem wd79 {Z : State} {a0 : Array Value} (hw : ∀ d ∈ tables_1, d.before a0 Z = true) : (Jvm.Cond.code ({ cls := "java/lang/String", name := "<init>", desc := "([CIILjava/lang/Void;)V" } : Jvm.MethodName) jdk_42_method_149_code (6 : Nat) (Option.none : Option Jvm.ClassFile.FieldType)).before a0 Z = true := hw _ (List.mem_of_getElem? (i := 79) rfl)
theorem wd80 {Z : State} {a0 : Array Value} (hw : ∀ d ∈ tables_1, d.before a0 Z = true) : (Jvm.Cond.methodLink "java/lang/String" (177 : Nat) ({ cls := "java/lang/StringUTF16", name := "compress", desc := "([CII)[B" } : Jvm.MethodName)).before a0 Z = true := hw _ (List.mem_of_getElem? (i := 80) rfl)
theorem wd81 {Z : State} {a0 : Array Value} (hw : ∀ d ∈ tables_1, d.before a0 Z = true) : (Jvm.Cond.static ({ cls := "java/lang/StringUTF16", name := "compress", desc := "([CII)[B" } : Jvm.MethodName)).before a0 Z = true := hw _ (List.mem_of_getElem? (i := 81) rfl)
theorem wd82 {Z : State} {a0 : Array Value} (hw : ∀ d ∈ tables_1, d.before a0 Z = true) : (Jvm.Cond.code ({ cls := "java/lang/StringUTF16", name := "compress", desc := "([CII)[B" } : Jvm.MethodName) jdk_52_method_16_code (6 : Nat) (Option.some (Jvm.ClassFile.FieldType.array Jvm.ClassFile.FieldType.byte))).before a0 Z = true := hw _ (List.mem_of_getElem? (i := 82) rfl)
theorem wd83 {Z : State} {a0 : Array Value} (hw : ∀ d ∈ tables_1, d.before a0 Z = true) : (Jvm.Cond.methodLink "java/lang/StringUTF16" (115 : Nat) ({ cls := "java/lang/StringUTF16", name := "compress", desc := "([CI[BII)I" } : Jvm.MethodName)).before a0 Z = true := hw _ (List.mem_of_getElem? (i := 83) rfl)
theorem wd84 {Z : State} {a0 : Array Value} (hw : ∀ d ∈ tables_1, d.before a0 Z = true) : (Jvm.Cond.static ({ cls := "java/lang/StringUTF16", name := "compress", desc := "([CI[BII)I" } : Jvm.MethodName)).before a0 Z = true := hw _ (List.mem_of_getElem? (i := 84) rfl)
theorem wd85 {Z : State} {a0 : Array Value} (hw : ∀ d ∈ tables_1, d.before a0 Z = true) : (Jvm.Cond.code ({ cls := "java/lang/StringUTF16", name := "compress", desc := "([CI[BII)I" } : Jvm.MethodName) jdk_52_method_21_code (7 : Nat) (Option.some Jvm.ClassFile.FieldType.int)).before a0 Z = true := hw _ (List.mem_of_getElem? (i := 85) rfl)
theorem wd86 {Z : State} {a0 : Array Value} (hw : ∀ d ∈ tables_1, d.before a0 Z = true) : (Jvm.Cond.methodLink "java/lang/StringUTF16" (119 : Nat) ({ cls := "java/lang/StringUTF16", name := "toBytes", desc := "([CII)[B" } : Jvm.MethodName)).before a0 Z = true := hw _ (List.mem_of_getElem? (i := 86) rfl)
theorem wd87 {Z : State} {a0 : Array Value} (hw : ∀ d ∈ tables_1, d.before a0 Z = true) : (Jvm.Cond.static ({ cls := "java/lang/StringUTF16", name := "toBytes", desc := "([CII)[B" } : Jvm.MethodName)).before a0 Z = true := hw _ (List.mem_of_getElem? (i := 87) rfl)
theorem wd88 {Z : State} {a0 : Array Value} (hw : ∀ d ∈ tables_1, d.before a0 Z = true) : (Jvm.Cond.code ({ cls := "java/lang/StringUTF16", name := "toBytes", desc := "([CII)[B" } : Jvm.MethodName) jdk_52_method_14_code (5 : Nat) (Option.some (Jvm.ClassFile.FieldType.array Jvm.ClassFile.FieldType.byte))).before a0 Z = true := hw _ (List.mem_of_getElem? (i := 88) rfl)
theorem wd89 {Z : State} {a0 : Array Value} (hw : ∀ d ∈ tables_1, d.before a0 Z = true) : (Jvm.Cond.methodLink "java/lang/StringUTF16" (107 : Nat) ({ cls := "java/lang/StringUTF16", name := "newBytesFor", desc := "(I)[B" } : Jvm.MethodName)).before a0 Z = true := hw _ (List.mem_of_getElem? (i := 89) rfl)
theorem wd90 {Z : State} {a0 : Array Value} (hw : ∀ d ∈ tables_1, d.before a0 Z = true) : (Jvm.Cond.static ({ cls := "java/lang/StringUTF16", name := "newBytesFor", desc := "(I)[B" } : Jvm.MethodName)).before a0 Z = true := hw _ (List.mem_of_getElem? (i := 90) rfl)
theorem wd91 {Z : State} {a0 : Array Value} (hw : ∀ d ∈ tables_1, d.before a0 Z = true) : (Jvm.Cond.code ({ cls := "java/lang/StringUTF16", name := "newBytesFor", desc := "(I)[B" } : Jvm.MethodName) jdk_52_method_2_code (1 : Nat) (Option.some (Jvm.ClassFile.FieldType.array Jvm.ClassFile.FieldType.byte))).before a0 Z = true := hw _ (List.mem_of_getElem? (i := 91) rfl)
theorem wd92 {Z : State} {a0 : Array Value} (hw : ∀ d ∈ tables_1, d.before a0 Z = true) : (Jvm.Cond.methodLink "java/lang/StringUTF16" (11 : Nat) ({ cls := "java/lang/StringUTF16", name := "newBytesLength", desc := "(I)I" } : Jvm.MethodName)).before a0 Z = true := hw _ (List.mem_of_getElem? (i := 92) rfl)
theorem wd93 {Z : State} {a0 : Array Value} (hw : ∀ d ∈ tables_1, d.before a0 Z = true) : (Jvm.Cond.static ({ cls := "java/lang/StringUTF16", name := "newBytesLength", desc := "(I)I" } : Jvm.MethodName)).before a0 Z = true := hw _ (List.mem_of_getElem? (i := 93) rfl)
theorem wd94 {Z : State} {a0 : Array Value} (hw : ∀ d ∈ tables_1, d.before a0 Z = true) : (Jvm.Cond.code ({ cls := "java/lang/StringUTF16", name := "newBytesLength", desc := "(I)I" } : Jvm.MethodName) jdk_52_method_3_code (1 : Nat) (Option.some Jvm.ClassFile.FieldType.int)).before a0 Z = true := hw _ (List.mem_of_getElem? (i := 94) rfl)
theorem wd95 {Z : State} {a0 : Array Value} (hw : ∀ d ∈ tables_1, d.before a0 Z = true) : (Jvm.Cond.constant "java/lang/StringUTF16" (20 : Nat) (1073741823 : Int32)).before a0 Z = true := hw _ (List.mem_of_getElem? (i := 95) rfl)
theorem wd96 {Z : State} {a0 : Array Value} (hw : ∀ d ∈ tables_1, d.before a0 Z = true) : (Jvm.Cond.methodLink "java/lang/StringUTF16" (71 : Nat) ({ cls := "java/lang/StringUTF16", name := "getChar", desc := "([BI)C" } : Jvm.MethodName)).before a0 Z = true := hw _ (List.mem_of_getElem? (i := 96) rfl)
theorem wd97 {Z : State} {a0 : Array Value} (hw : ∀ d ∈ tables_1, d.before a0 Z = true) : (Jvm.Cond.static ({ cls := "java/lang/StringUTF16", name := "getChar", desc := "([BI)C" } : Jvm.MethodName)).before a0 Z = true := hw _ (List.mem_of_getElem? (i := 97) rfl)
theorem wd98 {Z : State} {a0 : Array Value} (hw : ∀ d ∈ tables_1, d.before a0 Z = true) : (Jvm.Cond.code ({ cls := "java/lang/StringUTF16", name := "getChar", desc := "([BI)C" } : Jvm.MethodName) jdk_52_method_5_code (2 : Nat) (Option.some Jvm.ClassFile.FieldType.char)).before a0 Z = true := hw _ (List.mem_of_getElem? (i := 98) rfl)
theorem wd99 {Z : State} {a0 : Array Value} (hw : ∀ d ∈ tables_1, d.before a0 Z = true) : (Jvm.Cond.methodLink "java/lang/String" (47 : Nat) ({ cls := "java/lang/StringUTF16", name := "coderFromArrayLen", desc := "([BI)B" } : Jvm.MethodName)).before a0 Z = true := hw _ (List.mem_of_getElem? (i := 99) rfl)
theorem wd100 {Z : State} {a0 : Array Value} (hw : ∀ d ∈ tables_1, d.before a0 Z = true) : (Jvm.Cond.static ({ cls := "java/lang/StringUTF16", name := "coderFromArrayLen", desc := "([BI)B" } : Jvm.MethodName)).before a0 Z = true := hw _ (List.mem_of_getElem? (i := 100) rfl)
theorem wd101 {Z : State} {a0 : Array Value} (hw : ∀ d ∈ tables_1, d.before a0 Z = true) : (Jvm.Cond.code ({ cls := "java/lang/StringUTF16", name := "coderFromArrayLen", desc := "([BI)B" } : Jvm.MethodName) jdk_52_method_15_code (2 : Nat) (Option.some Jvm.ClassFile.FieldType.byte)).before a0 Z = true := hw _ (List.mem_of_getElem? (i := 101) rfl)
theorem wd102 {Z : State} {a0 : Array Value} (hw : ∀ d ∈ tables_1, d.before a0 Z = true) : (Jvm.Cond.methodLink "hornwright/model/Utf8Order" (19 : Nat) ({ cls := "java/lang/String", name := "charAt", desc := "(I)C" } : Jvm.MethodName)).before a0 Z = true := hw _ (List.mem_of_getElem? (i := 102) rfl)
theorem wd103 {Z : State} {a0 : Array Value} (hw : ∀ d ∈ tables_1, d.before a0 Z = true) : (Jvm.Cond.declares ({ cls := "java/lang/String", name := "charAt", desc := "(I)C" } : Jvm.MethodName)).before a0 Z = true := hw _ (List.mem_of_getElem? (i := 103) rfl)
theorem wd104 {Z : State} {a0 : Array Value} (hw : ∀ d ∈ tables_1, d.before a0 Z = true) : (Jvm.Cond.instanceMethod ({ cls := "java/lang/String", name := "charAt", desc := "(I)C" } : Jvm.MethodName)).before a0 Z = true := hw _ (List.mem_of_getElem? (i := 104) rfl)
theorem wd105 {Z : State} {a0 : Array Value} (hw : ∀ d ∈ tables_1, d.before a0 Z = true) : (Jvm.Cond.selects "java/lang/String" ({ cls := "java/lang/String", name := "charAt", desc := "(I)C" } : Jvm.MethodName) ({ cls := "java/lang/String", name := "charAt", desc := "(I)C" } : Jvm.MethodName)).before a0 Z = true := hw _ (List.mem_of_getElem? (i := 105) rfl)
theorem wd106 {Z : State} {a0 : Array Value} (hw : ∀ d ∈ tables_1, d.before a0 Z = true) : (Jvm.Cond.code ({ cls := "java/lang/String", name := "charAt", desc := "(I)C" } : Jvm.MethodName) jdk_42_method_56_code (2 : Nat) (Option.some Jvm.ClassFile.FieldType.char)).before a0 Z = true := hw _ (List.mem_of_getElem? (i := 106) rfl)
theorem wd107 {Z : State} {a0 : Array Value} (hw : ∀ d ∈ tables_1, d.before a0 Z = true) : (Jvm.Cond.methodLink "java/lang/String" (492 : Nat) ({ cls := "java/lang/String", name := "isLatin1", desc := "()Z" } : Jvm.MethodName)).before a0 Z = true := hw _ (List.mem_of_getElem? (i := 107) rfl)
theorem wd108 {Z : State} {a0 : Array Value} (hw : ∀ d ∈ tables_1, d.before a0 Z = true) : (Jvm.Cond.declares ({ cls := "java/lang/String", name := "isLatin1", desc := "()Z" } : Jvm.MethodName)).before a0 Z = true := hw _ (List.mem_of_getElem? (i := 108) rfl)
theorem wd109 {Z : State} {a0 : Array Value} (hw : ∀ d ∈ tables_1, d.before a0 Z = true) : (Jvm.Cond.instanceMethod ({ cls := "java/lang/String", name := "isLatin1", desc := "()Z" } : Jvm.MethodName)).before a0 Z = true := hw _ (List.mem_of_getElem? (i := 109) rfl)
theorem wd110 {Z : State} {a0 : Array Value} (hw : ∀ d ∈ tables_1, d.before a0 Z = true) : (Jvm.Cond.selects "java/lang/String" ({ cls := "java/lang/String", name := "isLatin1", desc := "()Z" } : Jvm.MethodName) ({ cls := "java/lang/String", name := "isLatin1", desc := "()Z" } : Jvm.MethodName)).before a0 Z = true := hw _ (List.mem_of_getElem? (i := 110) rfl)
theorem wd111 {Z : State} {a0 : Array Value} (hw : ∀ d ∈ tables_1, d.before a0 Z = true) : (Jvm.Cond.code ({ cls := "java/lang/String", name := "isLatin1", desc := "()Z" } : Jvm.MethodName) jdk_42_method_154_code (1 : Nat) (Option.some Jvm.ClassFile.FieldType.boolean)).before a0 Z = true := hw _ (List.mem_of_getElem? (i := 111) rfl)
theorem wd112 {Z : State} {a0 : Array Value} (hw : ∀ d ∈ tables_1, d.before a0 Z = true) : (Jvm.Cond.methodLink "java/lang/String" (498 : Nat) ({ cls := "java/lang/StringUTF16", name := "charAt", desc := "([BI)C" } : Jvm.MethodName)).before a0 Z = true := hw _ (List.mem_of_getElem? (i := 112) rfl)
theorem wd113 {Z : State} {a0 : Array Value} (hw : ∀ d ∈ tables_1, d.before a0 Z = true) : (Jvm.Cond.static ({ cls := "java/lang/StringUTF16", name := "charAt", desc := "([BI)C" } : Jvm.MethodName)).before a0 Z = true := hw _ (List.mem_of_getElem? (i := 113) rfl)
theorem wd114 {Z : State} {a0 : Array Value} (hw : ∀ d ∈ tables_1, d.before a0 Z = true) : (Jvm.Cond.code ({ cls := "java/lang/StringUTF16", name := "charAt", desc := "([BI)C" } : Jvm.MethodName) jdk_52_method_83_code (2 : Nat) (Option.some Jvm.ClassFile.FieldType.char)).before a0 Z = true := hw _ (List.mem_of_getElem? (i := 114) rfl)
theorem wd115 {Z : State} {a0 : Array Value} (hw : ∀ d ∈ tables_1, d.before a0 Z = true) : (Jvm.Cond.methodLink "java/lang/StringUTF16" (67 : Nat) ({ cls := "java/lang/StringUTF16", name := "checkIndex", desc := "(I[B)V" } : Jvm.MethodName)).before a0 Z = true := hw _ (List.mem_of_getElem? (i := 115) rfl)
theorem wd116 {Z : State} {a0 : Array Value} (hw : ∀ d ∈ tables_1, d.before a0 Z = true) : (Jvm.Cond.static ({ cls := "java/lang/StringUTF16", name := "checkIndex", desc := "(I[B)V" } : Jvm.MethodName)).before a0 Z = true := hw _ (List.mem_of_getElem? (i := 116) rfl)
theorem wd117 {Z : State} {a0 : Array Value} (hw : ∀ d ∈ tables_1, d.before a0 Z = true) : (Jvm.Cond.code ({ cls := "java/lang/StringUTF16", name := "checkIndex", desc := "(I[B)V" } : Jvm.MethodName) jdk_52_method_91_code (2 : Nat) (Option.none : Option Jvm.ClassFile.FieldType)).before a0 Z = true := hw _ (List.mem_of_getElem? (i := 117) rfl)
theorem wd118 {Z : State} {a0 : Array Value} (hw : ∀ d ∈ tables_1, d.before a0 Z = true) : (Jvm.Cond.methodLink "java/lang/StringUTF16" (48 : Nat) ({ cls := "java/lang/StringUTF16", name := "length", desc := "([B)I" } : Jvm.MethodName)).before a0 Z = true := hw _ (List.mem_of_getElem? (i := 118) rfl)
theorem wd119 {Z : State} {a0 : Array Value} (hw : ∀ d ∈ tables_1, d.before a0 Z = true) : (Jvm.Cond.static ({ cls := "java/lang/StringUTF16", name := "length", desc := "([B)I" } : Jvm.MethodName)).before a0 Z = true := hw _ (List.mem_of_getElem? (i := 119) rfl)
theorem wd120 {Z : State} {a0 : Array Value} (hw : ∀ d ∈ tables_1, d.before a0 Z = true) : (Jvm.Cond.code ({ cls := "java/lang/StringUTF16", name := "length", desc := "([B)I" } : Jvm.MethodName) jdk_52_method_6_code (1 : Nat) (Option.some Jvm.ClassFile.FieldType.int)).before a0 Z = true := hw _ (List.mem_of_getElem? (i := 120) rfl)
theorem wd121 {Z : State} {a0 : Array Value} (hw : ∀ d ∈ tables_1, d.before a0 Z = true) : (Jvm.Cond.methodLink "java/lang/StringUTF16" (414 : Nat) ({ cls := "java/lang/String", name := "checkIndex", desc := "(II)V" } : Jvm.MethodName)).before a0 Z = true := hw _ (List.mem_of_getElem? (i := 121) rfl)
theorem wd122 {Z : State} {a0 : Array Value} (hw : ∀ d ∈ tables_1, d.before a0 Z = true) : (Jvm.Cond.static ({ cls := "java/lang/String", name := "checkIndex", desc := "(II)V" } : Jvm.MethodName)).before a0 Z = true := hw _ (List.mem_of_getElem? (i := 122) rfl)
theorem wd123 {Z : State} {a0 : Array Value} (hw : ∀ d ∈ tables_1, d.before a0 Z = true) : (Jvm.Cond.code ({ cls := "java/lang/String", name := "checkIndex", desc := "(II)V" } : Jvm.MethodName) jdk_42_method_155_code (2 : Nat) (Option.none : Option Jvm.ClassFile.FieldType)).before a0 Z = true := hw _ (List.mem_of_getElem? (i := 123) rfl)
theorem wd124 {Z : State} {a0 : Array Value} (hw : ∀ d ∈ tables_1, d.before a0 Z = true) : (Jvm.Cond.fieldLink "java/lang/String" (1053 : Nat) "jdk/internal/util/Preconditions" "SIOOBE_FORMATTER" "Ljava/util/function/BiFunction;").before a0 Z = true := hw _ (List.mem_of_getElem? (i := 124) rfl)
theorem wd125 {Z : State} {a0 : Array Value} (hw : ∀ d ∈ tables_1, d.before a0 Z = true) : (Jvm.Cond.initialized "jdk/internal/util/Preconditions").before a0 Z = true := hw _ (List.mem_of_getElem? (i := 125) rfl)
theorem wd126 {Z : State} {a0 : Array Value} (hw : ∀ d ∈ tables_1, d.before a0 Z = true) : (Jvm.Cond.methodLink "java/lang/String" (1059 : Nat) ({ cls := "jdk/internal/util/Preconditions", name := "checkIndex", desc := "(IILjava/util/function/BiFunction;)I" } : Jvm.MethodName)).before a0 Z = true := hw _ (List.mem_of_getElem? (i := 126) rfl)
theorem wd127 {Z : State} {a0 : Array Value} (hw : ∀ d ∈ tables_1, d.before a0 Z = true) : (Jvm.Cond.static ({ cls := "jdk/internal/util/Preconditions", name := "checkIndex", desc := "(IILjava/util/function/BiFunction;)I" } : Jvm.MethodName)).before a0 Z = true := hw _ (List.mem_of_getElem? (i := 127) rfl)
theorem wd128 {Z : State} {a0 : Array Value} (hw : ∀ d ∈ tables_1, d.before a0 Z = true) : (Jvm.Cond.code ({ cls := "jdk/internal/util/Preconditions", name := "checkIndex", desc := "(IILjava/util/function/BiFunction;)I" } : Jvm.MethodName) jdk_41_method_11_code (3 : Nat) (Option.some Jvm.ClassFile.FieldType.int)).before a0 Z = true := hw _ (List.mem_of_getElem? (i := 128) rfl)
theorem wd129 {Z : State} {a0 : Array Value} (hw : ∀ d ∈ tables_1, d.before a0 Z = true) : (Jvm.Cond.methodLink "hornwright/model/Utf8OrderComparePinLaw" (42 : Nat) ({ cls := "hornwright/model/Utf8OrderComparePinLaw", name := "key", desc := "(C)I" } : Jvm.MethodName)).before a0 Z = true := hw _ (List.mem_of_getElem? (i := 129) rfl)
theorem wd130 {Z : State} {a0 : Array Value} (hw : ∀ d ∈ tables_1, d.before a0 Z = true) : (Jvm.Cond.static ({ cls := "hornwright/model/Utf8OrderComparePinLaw", name := "key", desc := "(C)I" } : Jvm.MethodName)).before a0 Z = true := hw _ (List.mem_of_getElem? (i := 130) rfl)
theorem wd131 {Z : State} {a0 : Array Value} (hw : ∀ d ∈ tables_1, d.before a0 Z = true) : (Jvm.Cond.code ({ cls := "hornwright/model/Utf8OrderComparePinLaw", name := "key", desc := "(C)I" } : Jvm.MethodName) method_4_code (1 : Nat) (Option.some Jvm.ClassFile.FieldType.int)).before a0 Z = true := hw _ (List.mem_of_getElem? (i := 131) rfl)
theorem wd132 {Z : State} {a0 : Array Value} (hw : ∀ d ∈ tables_1, d.before a0 Z = true) : (Jvm.Cond.constant "hornwright/model/Utf8OrderComparePinLaw" (39 : Nat) (55296 : Int32)).before a0 Z = true := hw _ (List.mem_of_getElem? (i := 132) rfl)
theorem wd133 {Z : State} {a0 : Array Value} (hw : ∀ d ∈ tables_1, d.before a0 Z = true) : (Jvm.Cond.constant "hornwright/model/Utf8OrderComparePinLaw" (40 : Nat) (57343 : Int32)).before a0 Z = true := hw _ (List.mem_of_getElem? (i := 133) rfl)
theorem wd134 {Z : State} {a0 : Array Value} (hw : ∀ d ∈ tables_1, d.before a0 Z = true) : (Jvm.Cond.constant "hornwright/model/Utf8OrderComparePinLaw" (41 : Nat) (65536 : Int32)).before a0 Z = true := hw _ (List.mem_of_getElem? (i := 134) rfl)
theorem wd135 {Z : State} {a0 : Array Value} (hw : ∀ d ∈ tables_1, d.before a0 Z = true) : (Jvm.Cond.methodLink "hornwright/model/Utf8Order" (23 : Nat) ({ cls := "hornwright/model/Utf8Order", name := "codePointRank", desc := "(C)I" } : Jvm.MethodName)).before a0 Z = true := hw _ (List.mem_of_getElem? (i := 135) rfl)
theorem wd136 {Z : State} {a0 : Array Value} (hw : ∀ d ∈ tables_1, d.before a0 Z = true) : (Jvm.Cond.static ({ cls := "hornwright/model/Utf8Order", name := "codePointRank", desc := "(C)I" } : Jvm.MethodName)).before a0 Z = true := hw _ (List.mem_of_getElem? (i := 136) rfl)
theorem wd137 {Z : State} {a0 : Array Value} (hw : ∀ d ∈ tables_1, d.before a0 Z = true) : (Jvm.Cond.code ({ cls := "hornwright/model/Utf8Order", name := "codePointRank", desc := "(C)I" } : Jvm.MethodName) prog_52_method_3_code (1 : Nat) (Option.some Jvm.ClassFile.FieldType.int)).before a0 Z = true := hw _ (List.mem_of_getElem? (i := 137) rfl)
theorem wd138 {Z : State} {a0 : Array Value} (hw : ∀ d ∈ tables_1, d.before a0 Z = true) : (Jvm.Cond.constant "hornwright/model/Utf8Order" (34 : Nat) (57344 : Int32)).before a0 Z = true := hw _ (List.mem_of_getElem? (i := 138) rfl)
theorem wd139 {Z : State} {a0 : Array Value} (hw : ∀ d ∈ tables_1, d.before a0 Z = true) : (Jvm.Cond.constant "hornwright/model/Utf8Order" (35 : Nat) (55296 : Int32)).before a0 Z = true := hw _ (List.mem_of_getElem? (i := 139) rfl)
theorem wd140 {Z : State} {a0 : Array Value} (hw : ∀ d ∈ tables_1, d.before a0 Z = true) : (Jvm.Cond.methodLink "java/lang/String" (495 : Nat) ({ cls := "java/lang/StringLatin1", name := "charAt", desc := "([BI)C" } : Jvm.MethodName)).before a0 Z = true := hw _ (List.mem_of_getElem? (i := 140) rfl)
theorem wd141 {Z : State} {a0 : Array Value} (hw : ∀ d ∈ tables_1, d.before a0 Z = true) : (Jvm.Cond.static ({ cls := "java/lang/StringLatin1", name := "charAt", desc := "([BI)C" } : Jvm.MethodName)).before a0 Z = true := hw _ (List.mem_of_getElem? (i := 141) rfl)
theorem wd142 {Z : State} {a0 : Array Value} (hw : ∀ d ∈ tables_1, d.before a0 Z = true) : (Jvm.Cond.code ({ cls := "java/lang/StringLatin1", name := "charAt", desc := "([BI)C" } : Jvm.MethodName) jdk_43_method_2_code (2 : Nat) (Option.some Jvm.ClassFile.FieldType.char)).before a0 Z = true := hw _ (List.mem_of_getElem? (i := 142) rfl)
theorem wd143 {Z : State} {a0 : Array Value} (hw : ∀ d ∈ tables_1, d.before a0 Z = true) : (Jvm.Cond.methodLink "java/lang/StringLatin1" (9 : Nat) ({ cls := "java/lang/String", name := "checkIndex", desc := "(II)V" } : Jvm.MethodName)).before a0 Z = true := hw _ (List.mem_of_getElem? (i := 143) rfl)
theorem d1_0 : decode method_3_code 0 = .ok (.iload_n 0, 1) := by decide +kernel
theorem d1_1 : decode method_3_code 1 = .ok (.ifCond .ne 6, 3) := by decide +kernel
theorem d1_4 : decode method_3_code 4 = .ok (.ldc 28, 2) := by decide +kernel
theorem d1_6 : decode method_3_code 6 = .ok (.areturn, 1) := by decide +kernel
theorem d1_7 : decode method_3_code 7 = .ok (.iload_n 0, 1) := by decide +kernel
theorem d1_8 : decode method_3_code 8 = .ok (.iconst 1, 1) := by decide +kernel
theorem d1_9 : decode method_3_code 9 = .ok (.if_icmp .ne 8, 3) := by decide +kernel
theorem d1_12 : decode method_3_code 12 = .ok (.iload_n 1, 1) := by decide +kernel
theorem d1_13 : decode method_3_code 13 = .ok (.invokestatic 30, 3) := by decide +kernel
theorem d1_16 : decode method_3_code 16 = .ok (.areturn, 1) := by decide +kernel
theorem d1_17 : decode method_3_code 17 = .ok (.iconst 2, 1) := by decide +kernel
theorem d1_18 : decode method_3_code 18 = .ok (.newarray .char, 2) := by decide +kernel
theorem d1_20 : decode method_3_code 20 = .ok (.astore_n 3, 1) := by decide +kernel
theorem d1_21 : decode method_3_code 21 = .ok (.aload_n 3, 1) := by decide +kernel
theorem d1_22 : decode method_3_code 22 = .ok (.iconst 0, 1) := by decide +kernel
theorem d1_23 : decode method_3_code 23 = .ok (.iload_n 1, 1) := by decide +kernel
theorem d1_24 : decode method_3_code 24 = .ok (.castore, 1) := by decide +kernel
theorem d1_25 : decode method_3_code 25 = .ok (.aload_n 3, 1) := by decide +kernel
theorem d1_26 : decode method_3_code 26 = .ok (.iconst 1, 1) := by decide +kernel
theorem d1_27 : decode method_3_code 27 = .ok (.iload_n 2, 1) := by decide +kernel
theorem d1_28 : decode method_3_code 28 = .ok (.castore, 1) := by decide +kernel
theorem d1_29 : decode method_3_code 29 = .ok (.new 31, 3) := by decide +kernel
theorem d1_32 : decode method_3_code 32 = .ok (.dup, 1) := by decide +kernel
theorem d1_33 : decode method_3_code 33 = .ok (.aload_n 3, 1) := by decide +kernel
theorem d1_34 : decode method_3_code 34 = .ok (.invokespecial 36, 3) := by decide +kernel
theorem d1_37 : decode method_3_code 37 = .ok (.areturn, 1) := by decide +kernel
theorem d2_0 : decode method_6_code 0 = .ok (.iload_n 0, 1) := by decide +kernel
theorem d2_1 : decode method_6_code 1 = .ok (.ifCond .le 57, 3) := by decide +kernel
theorem d2_4 : decode method_6_code 4 = .ok (.iload_n 3, 1) := by decide +kernel
theorem d2_5 : decode method_6_code 5 = .ok (.ifCond .le 53, 3) := by decide +kernel
theorem d2_8 : decode method_6_code 8 = .ok (.iload_n 1, 1) := by decide +kernel
theorem d2_9 : decode method_6_code 9 = .ok (.iload 4, 2) := by decide +kernel
theorem d2_11 : decode method_6_code 11 = .ok (.if_icmp .eq 17, 3) := by decide +kernel
theorem d2_14 : decode method_6_code 14 = .ok (.iload_n 1, 1) := by decide +kernel
theorem d2_15 : decode method_6_code 15 = .ok (.invokestatic 42, 3) := by decide +kernel
theorem d2_18 : decode method_6_code 18 = .ok (.iload 4, 2) := by decide +kernel
theorem d2_20 : decode method_6_code 20 = .ok (.invokestatic 42, 3) := by decide +kernel
theorem d2_23 : decode method_6_code 23 = .ok (.isub, 1) := by decide +kernel
theorem d2_24 : decode method_6_code 24 = .ok (.invokestatic 24, 3) := by decide +kernel
theorem d2_27 : decode method_6_code 27 = .ok (.ireturn, 1) := by decide +kernel
theorem d2_28 : decode method_6_code 28 = .ok (.iload_n 0, 1) := by decide +kernel
theorem d2_29 : decode method_6_code 29 = .ok (.iconst 1, 1) := by decide +kernel
theorem d2_30 : decode method_6_code 30 = .ok (.if_icmp .le 28, 3) := by decide +kernel
theorem d2_33 : decode method_6_code 33 = .ok (.iload_n 3, 1) := by decide +kernel
theorem d2_34 : decode method_6_code 34 = .ok (.iconst 1, 1) := by decide +kernel
theorem d2_35 : decode method_6_code 35 = .ok (.if_icmp .le 23, 3) := by decide +kernel
theorem d2_38 : decode method_6_code 38 = .ok (.iload_n 2, 1) := by decide +kernel
theorem d2_39 : decode method_6_code 39 = .ok (.iload 5, 2) := by decide +kernel
theorem d2_41 : decode method_6_code 41 = .ok (.if_icmp .eq 17, 3) := by decide +kernel
theorem d2_44 : decode method_6_code 44 = .ok (.iload_n 2, 1) := by decide +kernel
theorem d2_45 : decode method_6_code 45 = .ok (.invokestatic 42, 3) := by decide +kernel
theorem d2_48 : decode method_6_code 48 = .ok (.iload 5, 2) := by decide +kernel
theorem d2_50 : decode method_6_code 50 = .ok (.invokestatic 42, 3) := by decide +kernel
theorem d2_53 : decode method_6_code 53 = .ok (.isub, 1) := by decide +kernel
theorem d2_54 : decode method_6_code 54 = .ok (.invokestatic 24, 3) := by decide +kernel
theorem d2_57 : decode method_6_code 57 = .ok (.ireturn, 1) := by decide +kernel
theorem d2_58 : decode method_6_code 58 = .ok (.iload_n 0, 1) := by decide +kernel
theorem d2_59 : decode method_6_code 59 = .ok (.iload_n 3, 1) := by decide +kernel
theorem d2_60 : decode method_6_code 60 = .ok (.isub, 1) := by decide +kernel
theorem d2_61 : decode method_6_code 61 = .ok (.invokestatic 24, 3) := by decide +kernel
theorem d2_64 : decode method_6_code 64 = .ok (.ireturn, 1) := by decide +kernel
theorem d3_0 : decode method_5_code 0 = .ok (.iload_n 0, 1) := by decide +kernel
theorem d3_1 : decode method_5_code 1 = .ok (.ifCond .ge 5, 3) := by decide +kernel
theorem d3_4 : decode method_5_code 4 = .ok (.iconst (-1), 1) := by decide +kernel
theorem d3_5 : decode method_5_code 5 = .ok (.ireturn, 1) := by decide +kernel
theorem d3_6 : decode method_5_code 6 = .ok (.iload_n 0, 1) := by decide +kernel
theorem d3_7 : decode method_5_code 7 = .ok (.ifCond .le 5, 3) := by decide +kernel
theorem d3_10 : decode method_5_code 10 = .ok (.iconst 1, 1) := by decide +kernel
theorem d3_11 : decode method_5_code 11 = .ok (.ireturn, 1) := by decide +kernel
theorem d3_12 : decode method_5_code 12 = .ok (.iconst 0, 1) := by decide +kernel
theorem d3_13 : decode method_5_code 13 = .ok (.ireturn, 1) := by decide +kernel
theorem d4_0 : decode prog_52_method_2_code 0 = .ok (.aload_n 0, 1) := by decide +kernel
theorem d4_1 : decode prog_52_method_2_code 1 = .ok (.invokevirtual 7, 3) := by decide +kernel
theorem d4_4 : decode prog_52_method_2_code 4 = .ok (.aload_n 1, 1) := by decide +kernel
theorem d4_5 : decode prog_52_method_2_code 5 = .ok (.invokevirtual 7, 3) := by decide +kernel
theorem d4_8 : decode prog_52_method_2_code 8 = .ok (.invokestatic 13, 3) := by decide +kernel
theorem d4_11 : decode prog_52_method_2_code 11 = .ok (.istore_n 2, 1) := by decide +kernel
theorem d4_12 : decode prog_52_method_2_code 12 = .ok (.iconst 0, 1) := by decide +kernel
theorem d4_13 : decode prog_52_method_2_code 13 = .ok (.istore_n 3, 1) := by decide +kernel
theorem d4_14 : decode prog_52_method_2_code 14 = .ok (.iload_n 3, 1) := by decide +kernel
theorem d4_15 : decode prog_52_method_2_code 15 = .ok (.iload_n 2, 1) := by decide +kernel
theorem d4_16 : decode prog_52_method_2_code 16 = .ok (.if_icmp .ge 44, 3) := by decide +kernel
theorem d4_19 : decode prog_52_method_2_code 19 = .ok (.aload_n 0, 1) := by decide +kernel
theorem d4_20 : decode prog_52_method_2_code 20 = .ok (.iload_n 3, 1) := by decide +kernel
theorem d4_21 : decode prog_52_method_2_code 21 = .ok (.invokevirtual 19, 3) := by decide +kernel
theorem d4_24 : decode prog_52_method_2_code 24 = .ok (.istore 4, 2) := by decide +kernel
theorem d4_26 : decode prog_52_method_2_code 26 = .ok (.aload_n 1, 1) := by decide +kernel
theorem d4_27 : decode prog_52_method_2_code 27 = .ok (.iload_n 3, 1) := by decide +kernel
theorem d4_28 : decode prog_52_method_2_code 28 = .ok (.invokevirtual 19, 3) := by decide +kernel
theorem d4_31 : decode prog_52_method_2_code 31 = .ok (.istore 5, 2) := by decide +kernel
theorem d4_33 : decode prog_52_method_2_code 33 = .ok (.iload 4, 2) := by decide +kernel
theorem d4_35 : decode prog_52_method_2_code 35 = .ok (.iload 5, 2) := by decide +kernel
theorem d4_37 : decode prog_52_method_2_code 37 = .ok (.if_icmp .eq 17, 3) := by decide +kernel
theorem d4_40 : decode prog_52_method_2_code 40 = .ok (.iload 4, 2) := by decide +kernel
theorem d4_42 : decode prog_52_method_2_code 42 = .ok (.invokestatic 23, 3) := by decide +kernel
theorem d4_45 : decode prog_52_method_2_code 45 = .ok (.iload 5, 2) := by decide +kernel
theorem d4_47 : decode prog_52_method_2_code 47 = .ok (.invokestatic 23, 3) := by decide +kernel
theorem d4_50 : decode prog_52_method_2_code 50 = .ok (.invokestatic 29, 3) := by decide +kernel
theorem d4_53 : decode prog_52_method_2_code 53 = .ok (.ireturn, 1) := by decide +kernel
theorem d4_54 : decode prog_52_method_2_code 54 = .ok (.iinc 3 1, 3) := by decide +kernel
theorem d4_57 : decode prog_52_method_2_code 57 = .ok (.goto (-43), 3) := by decide +kernel
theorem d4_60 : decode prog_52_method_2_code 60 = .ok (.aload_n 0, 1) := by decide +kernel
theorem d4_61 : decode prog_52_method_2_code 61 = .ok (.invokevirtual 7, 3) := by decide +kernel
theorem d4_64 : decode prog_52_method_2_code 64 = .ok (.aload_n 1, 1) := by decide +kernel
theorem d4_65 : decode prog_52_method_2_code 65 = .ok (.invokevirtual 7, 3) := by decide +kernel
theorem d4_68 : decode prog_52_method_2_code 68 = .ok (.invokestatic 29, 3) := by decide +kernel
theorem d4_71 : decode prog_52_method_2_code 71 = .ok (.ireturn, 1) := by decide +kernel
theorem d5_0 : decode jdk_42_method_54_code 0 = .ok (.aload_n 0, 1) := by decide +kernel
theorem d5_1 : decode jdk_42_method_54_code 1 = .ok (.getfield 9, 3) := by decide +kernel
theorem d5_4 : decode jdk_42_method_54_code 4 = .ok (.arraylength, 1) := by decide +kernel
theorem d5_5 : decode jdk_42_method_54_code 5 = .ok (.aload_n 0, 1) := by decide +kernel
theorem d5_6 : decode jdk_42_method_54_code 6 = .ok (.invokevirtual 335, 3) := by decide +kernel
theorem d5_9 : decode jdk_42_method_54_code 9 = .ok (.ishr, 1) := by decide +kernel
theorem d5_10 : decode jdk_42_method_54_code 10 = .ok (.ireturn, 1) := by decide +kernel
theorem d6_0 : decode jdk_42_method_152_code 0 = .ok (.getstatic 38, 3) := by decide +kernel
theorem d6_3 : decode jdk_42_method_152_code 3 = .ok (.ifCond .eq 10, 3) := by decide +kernel
theorem d6_6 : decode jdk_42_method_152_code 6 = .ok (.aload_n 0, 1) := by decide +kernel
theorem d6_7 : decode jdk_42_method_152_code 7 = .ok (.getfield 15, 3) := by decide +kernel
theorem d6_10 : decode jdk_42_method_152_code 10 = .ok (.goto 4, 3) := by decide +kernel
theorem d6_14 : decode jdk_42_method_152_code 14 = .ok (.ireturn, 1) := by decide +kernel
theorem d7_0 : decode jdk_29_method_69_code 0 = .ok (.iload_n 0, 1) := by decide +kernel
theorem d7_1 : decode jdk_29_method_69_code 1 = .ok (.iload_n 1, 1) := by decide +kernel
theorem d7_2 : decode jdk_29_method_69_code 2 = .ok (.if_icmp .gt 7, 3) := by decide +kernel
theorem d7_5 : decode jdk_29_method_69_code 5 = .ok (.iload_n 0, 1) := by decide +kernel
theorem d7_6 : decode jdk_29_method_69_code 6 = .ok (.goto 4, 3) := by decide +kernel
theorem d7_9 : decode jdk_29_method_69_code 9 = .ok (.iload_n 1, 1) := by decide +kernel
theorem d7_10 : decode jdk_29_method_69_code 10 = .ok (.ireturn, 1) := by decide +kernel
theorem d8_0 : decode jdk_33_method_40_code 0 = .ok (.iload_n 0, 1) := by decide +kernel
theorem d8_1 : decode jdk_33_method_40_code 1 = .ok (.iload_n 1, 1) := by decide +kernel
theorem d8_2 : decode jdk_33_method_40_code 2 = .ok (.if_icmp .ge 7, 3) := by decide +kernel
theorem d8_5 : decode jdk_33_method_40_code 5 = .ok (.iconst (-1), 1) := by decide +kernel
theorem d8_6 : decode jdk_33_method_40_code 6 = .ok (.goto 13, 3) := by decide +kernel
theorem d8_9 : decode jdk_33_method_40_code 9 = .ok (.iload_n 0, 1) := by decide +kernel
theorem d8_10 : decode jdk_33_method_40_code 10 = .ok (.iload_n 1, 1) := by decide +kernel
theorem d8_11 : decode jdk_33_method_40_code 11 = .ok (.if_icmp .ne 7, 3) := by decide +kernel
theorem d8_14 : decode jdk_33_method_40_code 14 = .ok (.iconst 0, 1) := by decide +kernel
theorem d8_15 : decode jdk_33_method_40_code 15 = .ok (.goto 4, 3) := by decide +kernel
theorem d8_18 : decode jdk_33_method_40_code 18 = .ok (.iconst 1, 1) := by decide +kernel
theorem d8_19 : decode jdk_33_method_40_code 19 = .ok (.ireturn, 1) := by decide +kernel
theorem d9_0 : decode jdk_42_method_139_code 0 = .ok (.getstatic 38, 3) := by decide +kernel
theorem d9_3 : decode jdk_42_method_139_code 3 = .ok (.ifCond .eq 23, 3) := by decide +kernel
theorem d9_6 : decode jdk_42_method_139_code 6 = .ok (.iload_n 0, 1) := by decide +kernel
theorem d9_7 : decode jdk_42_method_139_code 7 = .ok (.invokestatic 1015, 3) := by decide +kernel
theorem d9_10 : decode jdk_42_method_139_code 10 = .ok (.ifCond .eq 16, 3) := by decide +kernel
theorem d9_13 : decode jdk_42_method_139_code 13 = .ok (.new 10, 3) := by decide +kernel
theorem d9_16 : decode jdk_42_method_139_code 16 = .ok (.dup, 1) := by decide +kernel
theorem d9_17 : decode jdk_42_method_139_code 17 = .ok (.iload_n 0, 1) := by decide +kernel
theorem d9_18 : decode jdk_42_method_139_code 18 = .ok (.invokestatic 1018, 3) := by decide +kernel
theorem d9_21 : decode jdk_42_method_139_code 21 = .ok (.iconst 0, 1) := by decide +kernel
theorem d9_22 : decode jdk_42_method_139_code 22 = .ok (.invokespecial 209, 3) := by decide +kernel
theorem d9_25 : decode jdk_42_method_139_code 25 = .ok (.areturn, 1) := by decide +kernel
theorem d9_26 : decode jdk_42_method_139_code 26 = .ok (.new 10, 3) := by decide +kernel
theorem d9_29 : decode jdk_42_method_139_code 29 = .ok (.dup, 1) := by decide +kernel
theorem d9_30 : decode jdk_42_method_139_code 30 = .ok (.iload_n 0, 1) := by decide +kernel
theorem d9_31 : decode jdk_42_method_139_code 31 = .ok (.invokestatic 1021, 3) := by decide +kernel
theorem d9_34 : decode jdk_42_method_139_code 34 = .ok (.iconst 1, 1) := by decide +kernel
theorem d9_35 : decode jdk_42_method_139_code 35 = .ok (.invokespecial 209, 3) := by decide +kernel
theorem d9_38 : decode jdk_42_method_139_code 38 = .ok (.areturn, 1) := by decide +kernel
theorem d10_0 : decode jdk_43_method_3_code 0 = .ok (.iload_n 0, 1) := by decide +kernel
theorem d10_1 : decode jdk_43_method_3_code 1 = .ok (.sipush 255, 3) := by decide +kernel
theorem d10_4 : decode jdk_43_method_3_code 4 = .ok (.if_icmp .gt 7, 3) := by decide +kernel
theorem d10_7 : decode jdk_43_method_3_code 7 = .ok (.iconst 1, 1) := by decide +kernel
theorem d10_8 : decode jdk_43_method_3_code 8 = .ok (.goto 4, 3) := by decide +kernel
theorem d10_11 : decode jdk_43_method_3_code 11 = .ok (.iconst 0, 1) := by decide +kernel
theorem d10_12 : decode jdk_43_method_3_code 12 = .ok (.ireturn, 1) := by decide +kernel
theorem d11_0 : decode jdk_43_method_46_code 0 = .ok (.iconst 1, 1) := by decide +kernel
theorem d11_1 : decode jdk_43_method_46_code 1 = .ok (.newarray .byte, 2) := by decide +kernel
theorem d11_3 : decode jdk_43_method_46_code 3 = .ok (.dup, 1) := by decide +kernel
theorem d11_4 : decode jdk_43_method_46_code 4 = .ok (.iconst 0, 1) := by decide +kernel
theorem d11_5 : decode jdk_43_method_46_code 5 = .ok (.iload_n 0, 1) := by decide +kernel
theorem d11_6 : decode jdk_43_method_46_code 6 = .ok (.i2b, 1) := by decide +kernel
theorem d11_7 : decode jdk_43_method_46_code 7 = .ok (.bastore, 1) := by decide +kernel
theorem d11_8 : decode jdk_43_method_46_code 8 = .ok (.areturn, 1) := by decide +kernel
theorem d12_0 : decode jdk_42_method_151_code 0 = .ok (.aload_n 0, 1) := by decide +kernel
theorem d12_1 : decode jdk_42_method_151_code 1 = .ok (.invokespecial 1, 3) := by decide +kernel
theorem d12_4 : decode jdk_42_method_151_code 4 = .ok (.aload_n 0, 1) := by decide +kernel
theorem d12_5 : decode jdk_42_method_151_code 5 = .ok (.aload_n 1, 1) := by decide +kernel
theorem d12_6 : decode jdk_42_method_151_code 6 = .ok (.putfield 9, 3) := by decide +kernel
theorem d12_9 : decode jdk_42_method_151_code 9 = .ok (.aload_n 0, 1) := by decide +kernel
theorem d12_10 : decode jdk_42_method_151_code 10 = .ok (.iload_n 2, 1) := by decide +kernel
theorem d12_11 : decode jdk_42_method_151_code 11 = .ok (.putfield 15, 3) := by decide +kernel
theorem d12_14 : decode jdk_42_method_151_code 14 = .ok (.return_, 1) := by decide +kernel
theorem d14_0 : decode jdk_52_method_24_code 0 = .ok (.iconst 2, 1) := by decide +kernel
theorem d14_1 : decode jdk_52_method_24_code 1 = .ok (.newarray .byte, 2) := by decide +kernel
theorem d14_3 : decode jdk_52_method_24_code 3 = .ok (.astore_n 1, 1) := by decide +kernel
theorem d14_4 : decode jdk_52_method_24_code 4 = .ok (.aload_n 1, 1) := by decide +kernel
theorem d14_5 : decode jdk_52_method_24_code 5 = .ok (.iconst 0, 1) := by decide +kernel
theorem d14_6 : decode jdk_52_method_24_code 6 = .ok (.iload_n 0, 1) := by decide +kernel
theorem d14_7 : decode jdk_52_method_24_code 7 = .ok (.invokestatic 111, 3) := by decide +kernel
theorem d14_10 : decode jdk_52_method_24_code 10 = .ok (.aload_n 1, 1) := by decide +kernel
theorem d14_11 : decode jdk_52_method_24_code 11 = .ok (.areturn, 1) := by decide +kernel
theorem d15_0 : decode jdk_52_method_4_code 0 = .ok (.getstatic 44, 3) := by decide +kernel
theorem d15_3 : decode jdk_52_method_4_code 3 = .ok (.ifCond .ne 25, 3) := by decide +kernel
theorem d15_28 : decode jdk_52_method_4_code 28 = .ok (.iload_n 1, 1) := by decide +kernel
theorem d15_29 : decode jdk_52_method_4_code 29 = .ok (.iconst 1, 1) := by decide +kernel
theorem d15_30 : decode jdk_52_method_4_code 30 = .ok (.ishl, 1) := by decide +kernel
theorem d15_31 : decode jdk_52_method_4_code 31 = .ok (.istore_n 1, 1) := by decide +kernel
theorem d15_32 : decode jdk_52_method_4_code 32 = .ok (.aload_n 0, 1) := by decide +kernel
theorem d15_33 : decode jdk_52_method_4_code 33 = .ok (.iload_n 1, 1) := by decide +kernel
theorem d15_34 : decode jdk_52_method_4_code 34 = .ok (.iinc 1 1, 3) := by decide +kernel
theorem d15_37 : decode jdk_52_method_4_code 37 = .ok (.iload_n 2, 1) := by decide +kernel
theorem d15_38 : decode jdk_52_method_4_code 38 = .ok (.getstatic 59, 3) := by decide +kernel
theorem d15_41 : decode jdk_52_method_4_code 41 = .ok (.ishr, 1) := by decide +kernel
theorem d15_42 : decode jdk_52_method_4_code 42 = .ok (.i2b, 1) := by decide +kernel
theorem d15_43 : decode jdk_52_method_4_code 43 = .ok (.bastore, 1) := by decide +kernel
theorem d15_44 : decode jdk_52_method_4_code 44 = .ok (.aload_n 0, 1) := by decide +kernel
theorem d15_45 : decode jdk_52_method_4_code 45 = .ok (.iload_n 1, 1) := by decide +kernel
theorem d15_46 : decode jdk_52_method_4_code 46 = .ok (.iload_n 2, 1) := by decide +kernel
theorem d15_47 : decode jdk_52_method_4_code 47 = .ok (.getstatic 63, 3) := by decide +kernel
theorem d15_50 : decode jdk_52_method_4_code 50 = .ok (.ishr, 1) := by decide +kernel
theorem d15_51 : decode jdk_52_method_4_code 51 = .ok (.i2b, 1) := by decide +kernel
theorem d15_52 : decode jdk_52_method_4_code 52 = .ok (.bastore, 1) := by decide +kernel
theorem d15_53 : decode jdk_52_method_4_code 53 = .ok (.return_, 1) := by decide +kernel
theorem d16_0 : decode jdk_42_method_3_code 0 = .ok (.aload_n 0, 1) := by decide +kernel
theorem d16_1 : decode jdk_42_method_3_code 1 = .ok (.aload_n 1, 1) := by decide +kernel
theorem d16_2 : decode jdk_42_method_3_code 2 = .ok (.iconst 0, 1) := by decide +kernel
theorem d16_3 : decode jdk_42_method_3_code 3 = .ok (.aload_n 1, 1) := by decide +kernel
theorem d16_4 : decode jdk_42_method_3_code 4 = .ok (.arraylength, 1) := by decide +kernel
theorem d16_5 : decode jdk_42_method_3_code 5 = .ok (.aconst_null, 1) := by decide +kernel
theorem d16_6 : decode jdk_42_method_3_code 6 = .ok (.invokespecial 27, 3) := by decide +kernel
theorem d16_9 : decode jdk_42_method_3_code 9 = .ok (.return_, 1) := by decide +kernel
theorem d17_0 : decode jdk_42_method_149_code 0 = .ok (.aload_n 0, 1) := by decide +kernel
theorem d17_1 : decode jdk_42_method_149_code 1 = .ok (.invokespecial 1, 3) := by decide +kernel
theorem d17_4 : decode jdk_42_method_149_code 4 = .ok (.iload_n 3, 1) := by decide +kernel
theorem d17_5 : decode jdk_42_method_149_code 5 = .ok (.ifCond .ne 22, 3) := by decide +kernel
theorem d17_27 : decode jdk_42_method_149_code 27 = .ok (.getstatic 38, 3) := by decide +kernel
theorem d17_30 : decode jdk_42_method_149_code 30 = .ok (.ifCond .eq 28, 3) := by decide +kernel
theorem d17_33 : decode jdk_42_method_149_code 33 = .ok (.aload_n 1, 1) := by decide +kernel
theorem d17_34 : decode jdk_42_method_149_code 34 = .ok (.iload_n 2, 1) := by decide +kernel
theorem d17_35 : decode jdk_42_method_149_code 35 = .ok (.iload_n 3, 1) := by decide +kernel
theorem d17_36 : decode jdk_42_method_149_code 36 = .ok (.invokestatic 177, 3) := by decide +kernel
theorem d17_39 : decode jdk_42_method_149_code 39 = .ok (.astore 5, 2) := by decide +kernel
theorem d17_41 : decode jdk_42_method_149_code 41 = .ok (.aload_n 0, 1) := by decide +kernel
theorem d17_42 : decode jdk_42_method_149_code 42 = .ok (.aload 5, 2) := by decide +kernel
theorem d17_44 : decode jdk_42_method_149_code 44 = .ok (.iload_n 3, 1) := by decide +kernel
theorem d17_45 : decode jdk_42_method_149_code 45 = .ok (.invokestatic 47, 3) := by decide +kernel
theorem d17_48 : decode jdk_42_method_149_code 48 = .ok (.putfield 15, 3) := by decide +kernel
theorem d17_51 : decode jdk_42_method_149_code 51 = .ok (.aload_n 0, 1) := by decide +kernel
theorem d17_52 : decode jdk_42_method_149_code 52 = .ok (.aload 5, 2) := by decide +kernel
theorem d17_54 : decode jdk_42_method_149_code 54 = .ok (.putfield 9, 3) := by decide +kernel
theorem d17_57 : decode jdk_42_method_149_code 57 = .ok (.return_, 1) := by decide +kernel
theorem d18_0 : decode jdk_52_method_16_code 0 = .ok (.iload_n 2, 1) := by decide +kernel
theorem d18_1 : decode jdk_52_method_16_code 1 = .ok (.newarray .byte, 2) := by decide +kernel
theorem d18_3 : decode jdk_52_method_16_code 3 = .ok (.astore_n 3, 1) := by decide +kernel
theorem d18_4 : decode jdk_52_method_16_code 4 = .ok (.aload_n 0, 1) := by decide +kernel
theorem d18_5 : decode jdk_52_method_16_code 5 = .ok (.iload_n 1, 1) := by decide +kernel
theorem d18_6 : decode jdk_52_method_16_code 6 = .ok (.aload_n 3, 1) := by decide +kernel
theorem d18_7 : decode jdk_52_method_16_code 7 = .ok (.iconst 0, 1) := by decide +kernel
theorem d18_8 : decode jdk_52_method_16_code 8 = .ok (.iload_n 2, 1) := by decide +kernel
theorem d18_9 : decode jdk_52_method_16_code 9 = .ok (.invokestatic 115, 3) := by decide +kernel
theorem d18_12 : decode jdk_52_method_16_code 12 = .ok (.istore 4, 2) := by decide +kernel
theorem d18_14 : decode jdk_52_method_16_code 14 = .ok (.iload 4, 2) := by decide +kernel
theorem d18_16 : decode jdk_52_method_16_code 16 = .ok (.iload_n 2, 1) := by decide +kernel
theorem d18_17 : decode jdk_52_method_16_code 17 = .ok (.if_icmp .eq 40, 3) := by decide +kernel
theorem d18_20 : decode jdk_52_method_16_code 20 = .ok (.aload_n 0, 1) := by decide +kernel
theorem d18_21 : decode jdk_52_method_16_code 21 = .ok (.iload_n 1, 1) := by decide +kernel
theorem d18_22 : decode jdk_52_method_16_code 22 = .ok (.iload_n 2, 1) := by decide +kernel
theorem d18_23 : decode jdk_52_method_16_code 23 = .ok (.invokestatic 119, 3) := by decide +kernel
theorem d18_26 : decode jdk_52_method_16_code 26 = .ok (.astore 5, 2) := by decide +kernel
theorem d18_28 : decode jdk_52_method_16_code 28 = .ok (.aload 5, 2) := by decide +kernel
theorem d18_30 : decode jdk_52_method_16_code 30 = .ok (.iload 4, 2) := by decide +kernel
theorem d18_32 : decode jdk_52_method_16_code 32 = .ok (.invokestatic 71, 3) := by decide +kernel
theorem d18_35 : decode jdk_52_method_16_code 35 = .ok (.sipush 255, 3) := by decide +kernel
theorem d18_38 : decode jdk_52_method_16_code 38 = .ok (.if_icmp .gt 16, 3) := by decide +kernel
theorem d18_54 : decode jdk_52_method_16_code 54 = .ok (.aload 5, 2) := by decide +kernel
theorem d18_56 : decode jdk_52_method_16_code 56 = .ok (.areturn, 1) := by decide +kernel
theorem d18_57 : decode jdk_52_method_16_code 57 = .ok (.aload_n 3, 1) := by decide +kernel
theorem d18_58 : decode jdk_52_method_16_code 58 = .ok (.areturn, 1) := by decide +kernel
theorem d19_0 : decode jdk_52_method_21_code 0 = .ok (.iconst 0, 1) := by decide +kernel
theorem d19_1 : decode jdk_52_method_21_code 1 = .ok (.istore 5, 2) := by decide +kernel
theorem d19_3 : decode jdk_52_method_21_code 3 = .ok (.iload 5, 2) := by decide +kernel
theorem d19_5 : decode jdk_52_method_21_code 5 = .ok (.iload 4, 2) := by decide +kernel
theorem d19_7 : decode jdk_52_method_21_code 7 = .ok (.if_icmp .ge 37, 3) := by decide +kernel
theorem d19_10 : decode jdk_52_method_21_code 10 = .ok (.aload_n 0, 1) := by decide +kernel
theorem d19_11 : decode jdk_52_method_21_code 11 = .ok (.iload_n 1, 1) := by decide +kernel
theorem d19_12 : decode jdk_52_method_21_code 12 = .ok (.caload, 1) := by decide +kernel
theorem d19_13 : decode jdk_52_method_21_code 13 = .ok (.istore 6, 2) := by decide +kernel
theorem d19_15 : decode jdk_52_method_21_code 15 = .ok (.iload 6, 2) := by decide +kernel
theorem d19_17 : decode jdk_52_method_21_code 17 = .ok (.sipush 255, 3) := by decide +kernel
theorem d19_20 : decode jdk_52_method_21_code 20 = .ok (.if_icmp .le 6, 3) := by decide +kernel
theorem d19_23 : decode jdk_52_method_21_code 23 = .ok (.iload 5, 2) := by decide +kernel
theorem d19_25 : decode jdk_52_method_21_code 25 = .ok (.ireturn, 1) := by decide +kernel
theorem d19_26 : decode jdk_52_method_21_code 26 = .ok (.aload_n 2, 1) := by decide +kernel
theorem d19_27 : decode jdk_52_method_21_code 27 = .ok (.iload_n 3, 1) := by decide +kernel
theorem d19_28 : decode jdk_52_method_21_code 28 = .ok (.iload 6, 2) := by decide +kernel
theorem d19_30 : decode jdk_52_method_21_code 30 = .ok (.i2b, 1) := by decide +kernel
theorem d19_31 : decode jdk_52_method_21_code 31 = .ok (.bastore, 1) := by decide +kernel
theorem d19_32 : decode jdk_52_method_21_code 32 = .ok (.iinc 1 1, 3) := by decide +kernel
theorem d19_35 : decode jdk_52_method_21_code 35 = .ok (.iinc 3 1, 3) := by decide +kernel
theorem d19_38 : decode jdk_52_method_21_code 38 = .ok (.iinc 5 1, 3) := by decide +kernel
theorem d19_41 : decode jdk_52_method_21_code 41 = .ok (.goto (-38), 3) := by decide +kernel
theorem d19_44 : decode jdk_52_method_21_code 44 = .ok (.iload 4, 2) := by decide +kernel
theorem d19_46 : decode jdk_52_method_21_code 46 = .ok (.ireturn, 1) := by decide +kernel
theorem d20_0 : decode jdk_52_method_14_code 0 = .ok (.iload_n 2, 1) := by decide +kernel
theorem d20_1 : decode jdk_52_method_14_code 1 = .ok (.invokestatic 107, 3) := by decide +kernel
theorem d20_4 : decode jdk_52_method_14_code 4 = .ok (.astore_n 3, 1) := by decide +kernel
theorem d20_5 : decode jdk_52_method_14_code 5 = .ok (.iconst 0, 1) := by decide +kernel
theorem d20_6 : decode jdk_52_method_14_code 6 = .ok (.istore 4, 2) := by decide +kernel
theorem d20_8 : decode jdk_52_method_14_code 8 = .ok (.iload 4, 2) := by decide +kernel
theorem d20_10 : decode jdk_52_method_14_code 10 = .ok (.iload_n 2, 1) := by decide +kernel
theorem d20_11 : decode jdk_52_method_14_code 11 = .ok (.if_icmp .ge 21, 3) := by decide +kernel
theorem d20_14 : decode jdk_52_method_14_code 14 = .ok (.aload_n 3, 1) := by decide +kernel
theorem d20_15 : decode jdk_52_method_14_code 15 = .ok (.iload 4, 2) := by decide +kernel
theorem d20_17 : decode jdk_52_method_14_code 17 = .ok (.aload_n 0, 1) := by decide +kernel
theorem d20_18 : decode jdk_52_method_14_code 18 = .ok (.iload_n 1, 1) := by decide +kernel
theorem d20_19 : decode jdk_52_method_14_code 19 = .ok (.caload, 1) := by decide +kernel
theorem d20_20 : decode jdk_52_method_14_code 20 = .ok (.invokestatic 111, 3) := by decide +kernel
theorem d20_23 : decode jdk_52_method_14_code 23 = .ok (.iinc 1 1, 3) := by decide +kernel
theorem d20_26 : decode jdk_52_method_14_code 26 = .ok (.iinc 4 1, 3) := by decide +kernel
theorem d20_29 : decode jdk_52_method_14_code 29 = .ok (.goto (-21), 3) := by decide +kernel
theorem d20_32 : decode jdk_52_method_14_code 32 = .ok (.aload_n 3, 1) := by decide +kernel
theorem d20_33 : decode jdk_52_method_14_code 33 = .ok (.areturn, 1) := by decide +kernel
theorem d21_0 : decode jdk_52_method_2_code 0 = .ok (.iload_n 0, 1) := by decide +kernel
theorem d21_1 : decode jdk_52_method_2_code 1 = .ok (.invokestatic 11, 3) := by decide +kernel
theorem d21_4 : decode jdk_52_method_2_code 4 = .ok (.newarray .byte, 2) := by decide +kernel
theorem d21_6 : decode jdk_52_method_2_code 6 = .ok (.areturn, 1) := by decide +kernel
theorem d22_0 : decode jdk_52_method_3_code 0 = .ok (.iload_n 0, 1) := by decide +kernel
theorem d22_1 : decode jdk_52_method_3_code 1 = .ok (.ifCond .ge 11, 3) := by decide +kernel
theorem d22_12 : decode jdk_52_method_3_code 12 = .ok (.iload_n 0, 1) := by decide +kernel
theorem d22_13 : decode jdk_52_method_3_code 13 = .ok (.ldc 20, 2) := by decide +kernel
theorem d22_15 : decode jdk_52_method_3_code 15 = .ok (.if_icmp .lt 40, 3) := by decide +kernel
theorem d22_55 : decode jdk_52_method_3_code 55 = .ok (.iload_n 0, 1) := by decide +kernel
theorem d22_56 : decode jdk_52_method_3_code 56 = .ok (.iconst 1, 1) := by decide +kernel
theorem d22_57 : decode jdk_52_method_3_code 57 = .ok (.ishl, 1) := by decide +kernel
theorem d22_58 : decode jdk_52_method_3_code 58 = .ok (.ireturn, 1) := by decide +kernel
theorem d23_0 : decode jdk_52_method_5_code 0 = .ok (.getstatic 44, 3) := by decide +kernel
theorem d23_3 : decode jdk_52_method_5_code 3 = .ok (.ifCond .ne 25, 3) := by decide +kernel
theorem d23_28 : decode jdk_52_method_5_code 28 = .ok (.iload_n 1, 1) := by decide +kernel
theorem d23_29 : decode jdk_52_method_5_code 29 = .ok (.iconst 1, 1) := by decide +kernel
theorem d23_30 : decode jdk_52_method_5_code 30 = .ok (.ishl, 1) := by decide +kernel
theorem d23_31 : decode jdk_52_method_5_code 31 = .ok (.istore_n 1, 1) := by decide +kernel
theorem d23_32 : decode jdk_52_method_5_code 32 = .ok (.aload_n 0, 1) := by decide +kernel
theorem d23_33 : decode jdk_52_method_5_code 33 = .ok (.iload_n 1, 1) := by decide +kernel
theorem d23_34 : decode jdk_52_method_5_code 34 = .ok (.iinc 1 1, 3) := by decide +kernel
theorem d23_37 : decode jdk_52_method_5_code 37 = .ok (.baload, 1) := by decide +kernel
theorem d23_38 : decode jdk_52_method_5_code 38 = .ok (.sipush 255, 3) := by decide +kernel
theorem d23_41 : decode jdk_52_method_5_code 41 = .ok (.iand, 1) := by decide +kernel
theorem d23_42 : decode jdk_52_method_5_code 42 = .ok (.getstatic 59, 3) := by decide +kernel
theorem d23_45 : decode jdk_52_method_5_code 45 = .ok (.ishl, 1) := by decide +kernel
theorem d23_46 : decode jdk_52_method_5_code 46 = .ok (.aload_n 0, 1) := by decide +kernel
theorem d23_47 : decode jdk_52_method_5_code 47 = .ok (.iload_n 1, 1) := by decide +kernel
theorem d23_48 : decode jdk_52_method_5_code 48 = .ok (.baload, 1) := by decide +kernel
theorem d23_49 : decode jdk_52_method_5_code 49 = .ok (.sipush 255, 3) := by decide +kernel
theorem d23_52 : decode jdk_52_method_5_code 52 = .ok (.iand, 1) := by decide +kernel
theorem d23_53 : decode jdk_52_method_5_code 53 = .ok (.getstatic 63, 3) := by decide +kernel
theorem d23_56 : decode jdk_52_method_5_code 56 = .ok (.ishl, 1) := by decide +kernel
theorem d23_57 : decode jdk_52_method_5_code 57 = .ok (.ior, 1) := by decide +kernel
theorem d23_58 : decode jdk_52_method_5_code 58 = .ok (.i2c, 1) := by decide +kernel
theorem d23_59 : decode jdk_52_method_5_code 59 = .ok (.ireturn, 1) := by decide +kernel
theorem d24_0 : decode jdk_52_method_15_code 0 = .ok (.iload_n 1, 1) := by decide +kernel
theorem d24_1 : decode jdk_52_method_15_code 1 = .ok (.aload_n 0, 1) := by decide +kernel
theorem d24_2 : decode jdk_52_method_15_code 2 = .ok (.arraylength, 1) := by decide +kernel
theorem d24_3 : decode jdk_52_method_15_code 3 = .ok (.isub, 1) := by decide +kernel
theorem d24_4 : decode jdk_52_method_15_code 4 = .ok (.bipush 31, 2) := by decide +kernel
theorem d24_6 : decode jdk_52_method_15_code 6 = .ok (.iushr, 1) := by decide +kernel
theorem d24_7 : decode jdk_52_method_15_code 7 = .ok (.i2b, 1) := by decide +kernel
theorem d24_8 : decode jdk_52_method_15_code 8 = .ok (.ireturn, 1) := by decide +kernel
theorem d25_0 : decode jdk_42_method_56_code 0 = .ok (.aload_n 0, 1) := by decide +kernel
theorem d25_1 : decode jdk_42_method_56_code 1 = .ok (.invokevirtual 492, 3) := by decide +kernel
theorem d25_4 : decode jdk_42_method_56_code 4 = .ok (.ifCond .eq 12, 3) := by decide +kernel
theorem d25_7 : decode jdk_42_method_56_code 7 = .ok (.aload_n 0, 1) := by decide +kernel
theorem d25_8 : decode jdk_42_method_56_code 8 = .ok (.getfield 9, 3) := by decide +kernel
theorem d25_11 : decode jdk_42_method_56_code 11 = .ok (.iload_n 1, 1) := by decide +kernel
theorem d25_12 : decode jdk_42_method_56_code 12 = .ok (.invokestatic 495, 3) := by decide +kernel
theorem d25_15 : decode jdk_42_method_56_code 15 = .ok (.ireturn, 1) := by decide +kernel
theorem d25_16 : decode jdk_42_method_56_code 16 = .ok (.aload_n 0, 1) := by decide +kernel
theorem d25_17 : decode jdk_42_method_56_code 17 = .ok (.getfield 9, 3) := by decide +kernel
theorem d25_20 : decode jdk_42_method_56_code 20 = .ok (.iload_n 1, 1) := by decide +kernel
theorem d25_21 : decode jdk_42_method_56_code 21 = .ok (.invokestatic 498, 3) := by decide +kernel
theorem d25_24 : decode jdk_42_method_56_code 24 = .ok (.ireturn, 1) := by decide +kernel
theorem d26_0 : decode jdk_42_method_154_code 0 = .ok (.getstatic 38, 3) := by decide +kernel
theorem d26_3 : decode jdk_42_method_154_code 3 = .ok (.ifCond .eq 14, 3) := by decide +kernel
theorem d26_6 : decode jdk_42_method_154_code 6 = .ok (.aload_n 0, 1) := by decide +kernel
theorem d26_7 : decode jdk_42_method_154_code 7 = .ok (.getfield 15, 3) := by decide +kernel
theorem d26_10 : decode jdk_42_method_154_code 10 = .ok (.ifCond .ne 7, 3) := by decide +kernel
theorem d26_13 : decode jdk_42_method_154_code 13 = .ok (.iconst 1, 1) := by decide +kernel
theorem d26_14 : decode jdk_42_method_154_code 14 = .ok (.goto 4, 3) := by decide +kernel
theorem d26_17 : decode jdk_42_method_154_code 17 = .ok (.iconst 0, 1) := by decide +kernel
theorem d26_18 : decode jdk_42_method_154_code 18 = .ok (.ireturn, 1) := by decide +kernel
theorem d27_0 : decode jdk_52_method_83_code 0 = .ok (.iload_n 1, 1) := by decide +kernel
theorem d27_1 : decode jdk_52_method_83_code 1 = .ok (.aload_n 0, 1) := by decide +kernel
theorem d27_2 : decode jdk_52_method_83_code 2 = .ok (.invokestatic 67, 3) := by decide +kernel
theorem d27_5 : decode jdk_52_method_83_code 5 = .ok (.aload_n 0, 1) := by decide +kernel
theorem d27_6 : decode jdk_52_method_83_code 6 = .ok (.iload_n 1, 1) := by decide +kernel
theorem d27_7 : decode jdk_52_method_83_code 7 = .ok (.invokestatic 71, 3) := by decide +kernel
theorem d27_10 : decode jdk_52_method_83_code 10 = .ok (.ireturn, 1) := by decide +kernel
theorem d28_0 : decode jdk_52_method_91_code 0 = .ok (.iload_n 0, 1) := by decide +kernel
theorem d28_1 : decode jdk_52_method_91_code 1 = .ok (.aload_n 1, 1) := by decide +kernel
theorem d28_2 : decode jdk_52_method_91_code 2 = .ok (.invokestatic 48, 3) := by decide +kernel
theorem d28_5 : decode jdk_52_method_91_code 5 = .ok (.invokestatic 414, 3) := by decide +kernel
theorem d28_8 : decode jdk_52_method_91_code 8 = .ok (.return_, 1) := by decide +kernel
theorem d29_0 : decode jdk_52_method_6_code 0 = .ok (.aload_n 0, 1) := by decide +kernel
theorem d29_1 : decode jdk_52_method_6_code 1 = .ok (.arraylength, 1) := by decide +kernel
theorem d29_2 : decode jdk_52_method_6_code 2 = .ok (.iconst 1, 1) := by decide +kernel
theorem d29_3 : decode jdk_52_method_6_code 3 = .ok (.ishr, 1) := by decide +kernel
theorem d29_4 : decode jdk_52_method_6_code 4 = .ok (.ireturn, 1) := by decide +kernel
theorem d30_0 : decode jdk_42_method_155_code 0 = .ok (.iload_n 0, 1) := by decide +kernel
theorem d30_1 : decode jdk_42_method_155_code 1 = .ok (.iload_n 1, 1) := by decide +kernel
theorem d30_2 : decode jdk_42_method_155_code 2 = .ok (.getstatic 1053, 3) := by decide +kernel
theorem d30_5 : decode jdk_42_method_155_code 5 = .ok (.invokestatic 1059, 3) := by decide +kernel
theorem d30_8 : decode jdk_42_method_155_code 8 = .ok (.pop, 1) := by decide +kernel
theorem d30_9 : decode jdk_42_method_155_code 9 = .ok (.return_, 1) := by decide +kernel
theorem d31_0 : decode jdk_41_method_11_code 0 = .ok (.iload_n 0, 1) := by decide +kernel
theorem d31_1 : decode jdk_41_method_11_code 1 = .ok (.ifCond .lt 8, 3) := by decide +kernel
theorem d31_4 : decode jdk_41_method_11_code 4 = .ok (.iload_n 0, 1) := by decide +kernel
theorem d31_5 : decode jdk_41_method_11_code 5 = .ok (.iload_n 1, 1) := by decide +kernel
theorem d31_6 : decode jdk_41_method_11_code 6 = .ok (.if_icmp .lt 10, 3) := by decide +kernel
theorem d31_16 : decode jdk_41_method_11_code 16 = .ok (.iload_n 0, 1) := by decide +kernel
theorem d31_17 : decode jdk_41_method_11_code 17 = .ok (.ireturn, 1) := by decide +kernel
theorem d32_0 : decode method_4_code 0 = .ok (.iload_n 0, 1) := by decide +kernel
theorem d32_1 : decode method_4_code 1 = .ok (.ldc 39, 2) := by decide +kernel
theorem d32_3 : decode method_4_code 3 = .ok (.if_icmp .lt 14, 3) := by decide +kernel
theorem d32_6 : decode method_4_code 6 = .ok (.iload_n 0, 1) := by decide +kernel
theorem d32_7 : decode method_4_code 7 = .ok (.ldc 40, 2) := by decide +kernel
theorem d32_9 : decode method_4_code 9 = .ok (.if_icmp .gt 8, 3) := by decide +kernel
theorem d32_12 : decode method_4_code 12 = .ok (.iload_n 0, 1) := by decide +kernel
theorem d32_13 : decode method_4_code 13 = .ok (.ldc 41, 2) := by decide +kernel
theorem d32_15 : decode method_4_code 15 = .ok (.iadd, 1) := by decide +kernel
theorem d32_16 : decode method_4_code 16 = .ok (.ireturn, 1) := by decide +kernel
theorem d32_17 : decode method_4_code 17 = .ok (.iload_n 0, 1) := by decide +kernel
theorem d32_18 : decode method_4_code 18 = .ok (.ireturn, 1) := by decide +kernel
theorem d33_0 : decode prog_52_method_3_code 0 = .ok (.iload_n 0, 1) := by decide +kernel
theorem d33_1 : decode prog_52_method_3_code 1 = .ok (.ldc 34, 2) := by decide +kernel
theorem d33_3 : decode prog_52_method_3_code 3 = .ok (.if_icmp .lt 9, 3) := by decide +kernel
theorem d33_6 : decode prog_52_method_3_code 6 = .ok (.iload_n 0, 1) := by decide +kernel
theorem d33_7 : decode prog_52_method_3_code 7 = .ok (.sipush 2048, 3) := by decide +kernel
theorem d33_10 : decode prog_52_method_3_code 10 = .ok (.isub, 1) := by decide +kernel
theorem d33_11 : decode prog_52_method_3_code 11 = .ok (.ireturn, 1) := by decide +kernel
theorem d33_12 : decode prog_52_method_3_code 12 = .ok (.iload_n 0, 1) := by decide +kernel
theorem d33_13 : decode prog_52_method_3_code 13 = .ok (.ldc 35, 2) := by decide +kernel
theorem d33_15 : decode prog_52_method_3_code 15 = .ok (.if_icmp .lt 9, 3) := by decide +kernel
theorem d33_18 : decode prog_52_method_3_code 18 = .ok (.iload_n 0, 1) := by decide +kernel
theorem d33_19 : decode prog_52_method_3_code 19 = .ok (.sipush 8192, 3) := by decide +kernel
theorem d33_22 : decode prog_52_method_3_code 22 = .ok (.iadd, 1) := by decide +kernel
theorem d33_23 : decode prog_52_method_3_code 23 = .ok (.ireturn, 1) := by decide +kernel
theorem d33_24 : decode prog_52_method_3_code 24 = .ok (.iload_n 0, 1) := by decide +kernel
theorem d33_25 : decode prog_52_method_3_code 25 = .ok (.ireturn, 1) := by decide +kernel
theorem d34_0 : decode jdk_43_method_2_code 0 = .ok (.iload_n 1, 1) := by decide +kernel
theorem d34_1 : decode jdk_43_method_2_code 1 = .ok (.aload_n 0, 1) := by decide +kernel
theorem d34_2 : decode jdk_43_method_2_code 2 = .ok (.arraylength, 1) := by decide +kernel
theorem d34_3 : decode jdk_43_method_2_code 3 = .ok (.invokestatic 9, 3) := by decide +kernel
theorem d34_6 : decode jdk_43_method_2_code 6 = .ok (.aload_n 0, 1) := by decide +kernel
theorem d34_7 : decode jdk_43_method_2_code 7 = .ok (.iload_n 1, 1) := by decide +kernel
theorem d34_8 : decode jdk_43_method_2_code 8 = .ok (.baload, 1) := by decide +kernel
theorem d34_9 : decode jdk_43_method_2_code 9 = .ok (.sipush 255, 3) := by decide +kernel
theorem d34_12 : decode jdk_43_method_2_code 12 = .ok (.iand, 1) := by decide +kernel
theorem d34_13 : decode jdk_43_method_2_code 13 = .ok (.i2c, 1) := by decide +kernel
theorem d34_14 : decode jdk_43_method_2_code 14 = .ok (.ireturn, 1) := by decide +kernel
theorem pd0 : parseMethodDescriptor "()B" = some ⟨[], some .byte⟩ := by decide +kernel
theorem pd1 : parseMethodDescriptor "(IILjava/util/function/BiFunction;)I" = some ⟨[.int, .int, (.object "java/util/function/BiFunction")], some .int⟩ := by decide +kernel
theorem pd2 : parseMethodDescriptor "(II)V" = some ⟨[.int, .int], none⟩ := by decide +kernel
theorem pd3 : parseMethodDescriptor "()Z" = some ⟨[], some .boolean⟩ := by decide +kernel
theorem pd4 : parseMethodDescriptor "([BI)C" = some ⟨[(.array .byte), .int], some .char⟩ := by decide +kernel
theorem pd5 : parseMethodDescriptor "(I)I" = some ⟨[.int], some .int⟩ := by decide +kernel
theorem pd6 : parseMethodDescriptor "([BII)V" = some ⟨[(.array .byte), .int, .int], none⟩ := by decide +kernel
theorem pd7 : parseMethodDescriptor "(I)[B" = some ⟨[.int], some (.array .byte)⟩ := by decide +kernel
theorem pd8 : parseMethodDescriptor "([CI[BII)I" = some ⟨[(.array .char), .int, (.array .byte), .int, .int], some .int⟩ := by decide +kernel
theorem pd9 : parseMethodDescriptor "([CII)[B" = some ⟨[(.array .char), .int, .int], some (.array .byte)⟩ := by decide +kernel
theorem pd10 : parseMethodDescriptor "([BI)B" = some ⟨[(.array .byte), .int], some .byte⟩ := by decide +kernel
theorem pd11 : parseMethodDescriptor "([CIILjava/lang/Void;)V" = some ⟨[(.array .char), .int, .int, (.object "java/lang/Void")], none⟩ := by decide +kernel
theorem pd12 : parseMethodDescriptor "([B)I" = some ⟨[(.array .byte)], some .int⟩ := by decide +kernel
theorem pd13 : parseMethodDescriptor "(I[B)V" = some ⟨[.int, (.array .byte)], none⟩ := by decide +kernel
theorem pd14 : parseMethodDescriptor "(C)Z" = some ⟨[.char], some .boolean⟩ := by decide +kernel
theorem pd15 : parseMethodDescriptor "(C)[B" = some ⟨[.char], some (.array .byte)⟩ := by decide +kernel
theorem pd16 : parseMethodDescriptor "([BB)V" = some ⟨[(.array .byte), .byte], none⟩ := by decide +kernel
theorem pd17 : parseMethodDescriptor "(C)I" = some ⟨[.char], some .int⟩ := by decide +kernel
theorem pd18 : parseMethodDescriptor "()I" = some ⟨[], some .int⟩ := by decide +kernel
theorem pd19 : parseMethodDescriptor "(II)I" = some ⟨[.int, .int], some .int⟩ := by decide +kernel
theorem pd20 : parseMethodDescriptor "(I)C" = some ⟨[.int], some .char⟩ := by decide +kernel
theorem pd21 : parseMethodDescriptor "(C)Ljava/lang/String;" = some ⟨[.char], some (.object "java/lang/String")⟩ := by decide +kernel
theorem pd22 : parseMethodDescriptor "([C)V" = some ⟨[(.array .char)], none⟩ := by decide +kernel
theorem pd23 : parseMethodDescriptor "(ICC)Ljava/lang/String;" = some ⟨[.int, .char, .char], some (.object "java/lang/String")⟩ := by decide +kernel
theorem pd24 : parseMethodDescriptor "(ICCICC)I" = some ⟨[.int, .char, .char, .int, .char, .char], some .int⟩ := by decide +kernel
theorem pd25 : parseMethodDescriptor "(Ljava/lang/String;Ljava/lang/String;)I" = some ⟨[(.object "java/lang/String"), (.object "java/lang/String")], some .int⟩ := by decide +kernel
theorem pn0 : plainName "java/lang/String" = true := by first | (simp [plainName, overriddenIn]; done) | decide +kernel
theorem pn1 : plainName "jdk/internal/util/Preconditions" = true := by first | (simp [plainName, overriddenIn]; done) | decide +kernel
theorem pn2 : plainName "java/lang/StringLatin1" = true := by first | (simp [plainName, overriddenIn]; done) | decide +kernel
theorem pn3 : plainName "java/lang/StringUTF16" = true := by first | (simp [plainName, overriddenIn]; done) | decide +kernel
theorem pn4 : plainName "hornwright/model/Utf8OrderComparePinLaw" = true := by first | (simp [plainName, overriddenIn]; done) | decide +kernel
theorem pn5 : plainName "java/lang/Integer" = true := by first | (simp [plainName, overriddenIn]; done) | decide +kernel
theorem pn6 : plainName "hornwright/model/Utf8Order" = true := by first | (simp [plainName, overriddenIn]; done) | decide +kernel
/-- what is said of the start -/
def Gl (Z : State) (a0 : Array Value) : Prop := (∀ d ∈ tables_1, d.before a0 Z = true) ∧ Jvm.Lit.constHeld Z "hornwright/model/Utf8OrderComparePinLaw" 28 ∧ Jvm.Lit.compactW.before a0 Z = true
/-- the String at a, coder 0, spells cs (each 0 to 255) -/
def SL (Z : State) (h : Heap) (a : Addr) (cs : List Int32) : Prop := ∃ b, Exa Z h a "java/lang/String" ∧ Fld Z h a "java/lang/String" "coder" "B" (.int 0) ∧ Fld Z h a "java/lang/String" "value" "[B" (.ref b) ∧ Av Z h b .byte cs.length (fun j => .int ((cs.getD j 0).toInt8.toInt32)) ∧ ∀ c ∈ cs, ¬ c < 0 ∧ ¬ (255 : Int32) < c
theorem SL.exa {Z : State} {h : Heap} {a : Addr} {cs : List Int32} (S : SL Z h a cs) : Exa Z h a "java/lang/String" := by obtain ⟨b, E, -⟩ := S; exact E
theorem SL.ext {Z : State} {h h' : Heap} {a : Addr} {cs : List Int32} (S : SL Z h a cs) (E : Ext h h') : SL Z h' a cs := by obtain ⟨b, r1, r2, r3, r4, r5⟩ := S; exact ⟨b, r1.ext E, r2.ext E, r3.ext E, r4.ext E, r5⟩
/-- it stands where nothing that was there is written -/
theorem SL.keep {Z : State} {h h' : Heap} {a : Addr} {cs : List Int32} {ws : List Addr} (S : SL Z h a cs) (K : Keep h h' ws) (q : ∀ x ∈ ws, h.size ≤ x) : SL Z h' a cs := by
  obtain ⟨b, r1, r2, r3, r4, r5⟩ := S
  have n1 : a ∉ ws := fun hm => Nat.not_lt.mpr (q a hm) r1.lt
  have n2 : b ∉ ws := fun hm => Nat.not_lt.mpr (q b hm) r4.lt
  exact ⟨b, r1.keep K, r2.keep K n1, r3.keep K n1, r4.keep K n2, r5⟩
theorem SL.len {Z : State} {h : Heap} {a : Addr} {cs : List Int32} (S : SL Z h a cs) : cs.length < 2 ^ 31 := by obtain ⟨b, -, -, -, ⟨_, _, _, r, _⟩, -⟩ := S; exact r
theorem SL.of {Z : State} {h : Heap} {a t : Addr} {kb : ClassId} {cs : List Int32} {n : Nat} (hn : cs.length = n) (h31 : n < 2 ^ 31) (E : Exa Z h a "java/lang/String") (F1 : Fld Z h a "java/lang/String" "coder" "B" (.int 0)) (F2 : Fld Z h a "java/lang/String" "value" "[B" (.ref t)) (A : Arv Z h t kb .byte (Int32.ofNat n) ((cs.map fun c => c.toInt8.toInt32).map Value.int) (.int 0)) (hp : ∀ c ∈ cs, ¬ c < 0 ∧ ¬ (255 : Int32) < c) : SL Z h a cs := by
  subst hn
  refine ⟨t, E, F1, F2, (Av.of_arv A (Int32.toNatClampNeg_ofNat_of_lt h31)).congr (fun j hj => ?_), hp⟩
  simp [List.getD, hj]
/-- what is said of the String class -/
def LG (Z : State) (cz : Int32) (fm : Value) : Prop := Sta Z Z.heap "java/lang/String" "COMPACT_STRINGS" "Z" (.int cz) ∧ ¬ cz = 0 ∧ Sta Z Z.heap "jdk/internal/util/Preconditions" "SIOOBE_FORMATTER" "Ljava/util/function/BiFunction;" fm ∧ fm.isRef = true
theorem byte_of {c : Int32} (h : ¬ c < 0 ∧ ¬ (255 : Int32) < c) : ∃ k : Fin 256, c = Int32.ofNat k.val := by
  obtain ⟨h1, h2⟩ := h
  rw [Int32.lt_iff_toInt_lt] at h1 h2
  have e0 : (0 : Int32).toInt = 0 := rfl
  have e1 : (255 : Int32).toInt = 255 := rfl
  refine ⟨⟨c.toInt.toNat, by omega⟩, ?_⟩
  apply Int32.toInt_inj.mp
  rw [Int32.toInt_ofNat_of_lt (by show c.toInt.toNat < 2 ^ 31; omega)]
  show c.toInt = (c.toInt.toNat : Int)
  omega
theorem byte_back {c : Int32} (h : ¬ c < 0 ∧ ¬ (255 : Int32) < c) : nar .char ((c.toInt8.toInt32 &&& (255 : Int32)).toUInt32.toUInt16.toUInt32.toInt32) = c := by
  have t : ∀ k : Fin 256, nar .char (((Int32.ofNat k.val).toInt8.toInt32 &&& (255 : Int32)).toUInt32.toUInt16.toUInt32.toInt32) = Int32.ofNat k.val := by decide +kernel
  obtain ⟨k, rfl⟩ := byte_of h
  exact t k
theorem byte_nar {c : Int32} (h : ¬ c < 0 ∧ ¬ (255 : Int32) < c) : nar .char c = c := by
  have t : ∀ k : Fin 256, nar .char (Int32.ofNat k.val) = Int32.ofNat k.val := by decide +kernel
  obtain ⟨k, rfl⟩ := byte_of h
  exact t k
theorem shr0 (x : Int32) : x >>> ((0 : Int32) &&& 31) = x := by
  apply Int32.toBitVec_inj.mp
  simp
/-- r is the answer on P -/
def AN (P : Prop) (r : Int32) : Prop := (P ∧ r = 1) ∨ (¬ P ∧ r = 0)
theorem AN.uniq {P : Prop} {r s : Int32} (h1 : AN P r) (h2 : AN P s) : r = s := by
  rcases h1 with ⟨p, rfl⟩ | ⟨p, rfl⟩ <;> rcases h2 with ⟨q, rfl⟩ | ⟨q, rfl⟩ <;> first | rfl | exact absurd p q | exact absurd q p
abbrev rmL0 : Room := { frames := 0, cells := 0, slots := 0, locals := 0 }
abbrev rmL1 : Room := { frames := 1, cells := 0, slots := 0, locals := 16 }
abbrev rmL2 : Room := { frames := 2, cells := 0, slots := 0, locals := 32 }
abbrev rmL3 : Room := { frames := 3, cells := 0, slots := 0, locals := 48 }
set_option maxRecDepth 65536 in
set_option maxHeartbeats 40000000 in
theorem c_coder (l : Launch) (Z : State) (a0 : Array Value) (G : Gl Z a0) (cz : Int32) (fm : Value) (LG0 : LG Z cz fm) (h0 : Heap) (n0 : Nat) (X0 : Ext Z.heap h0) (a : Addr) (F : Fld Z h0 a "java/lang/String" "coder" "B" (.int 0)) :
    Ctr l Z (⟨"java/lang/String", "coder", "()B"⟩ : MethodName) jdk_42_method_152_code 1 (some .byte) rmL0 #[(.ref a)] h0 n0 (fun v h => h0 = h ∧ v = some (.int 0)) := by
  have hw := G.1
  obtain ⟨S0, hcz, SF, hfm⟩ := LG0
  refine Ctr.of (n1 := n0) #[.val (.ref a)] (plainFor_of_name pn0) (fun m => by first | (simp [entryFrame, mkF, argsToLocals, Value.category, maxLocals]; done) | rfl) ?_
  intro p e s m below meth c C
  refine g_gets C d6_0 (host := "") (Or.inl (wd34 hw)) Via.refl (S0.ext X0) (q := 3) rfl ?_
  refine g_if_eq C d6_3 (q' := 13) (q := 6) (by decide) (by decide) rfl (fun hy => absurd hy hcz) (fun hn => ?_)
  refine g_aloadN C d6_6 (v := (.ref a)) rfl rfl (q := 7) rfl ?_
  refine g_getf C d6_7 (host := "") (Or.inl (wd35 hw)) Via.refl F (q := 10) rfl ?_
  refine g_goto C d6_10 (q := 14) (by decide) (by decide) ?_
  refine g_nreturn C d6_14 (by simp) (z := 0) rfl (Nat.le_refl _) (by decide) (by decide) ⟨rfl, rfl⟩
set_option maxRecDepth 65536 in
set_option maxHeartbeats 40000000 in
theorem c_len (l : Launch) (Z : State) (a0 : Array Value) (G : Gl Z a0) (cz : Int32) (fm : Value) (LG0 : LG Z cz fm) (h0 : Heap) (n0 : Nat) (X0 : Ext Z.heap h0) (a : Addr) (cs : List Int32) (S : SL Z h0 a cs) :
    Ctr l Z (⟨"java/lang/String", "length", "()I"⟩ : MethodName) jdk_42_method_54_code 1 (some .int) rmL1 #[(.ref a)] h0 n0 (fun v h => h0 = h ∧ v = some (.int (Int32.ofNat cs.length))) := by
  have hw := G.1
  obtain ⟨b, E, F1, F2, B, hp⟩ := S
  refine Ctr.of (n1 := n0) #[.val (.ref a)] (plainFor_of_name pn0) (fun m => by first | (simp [entryFrame, mkF, argsToLocals, Value.category, maxLocals]; done) | rfl) ?_
  intro p e s m below meth c C
  refine g_aloadN C d5_0 (v := (.ref a)) rfl rfl (q := 1) rfl ?_
  refine g_getf C d5_1 (host := "") (Or.inl (wd28 hw)) Via.refl F2 (q := 4) rfl ?_
  refine g_alen C d5_4 B (z := (Int32.ofNat cs.length)) rfl (q := 5) rfl ?_
  refine g_aloadN C d5_5 (v := (.ref a)) rfl rfl (q := 6) rfl ?_
  refine g_callV C (W := 1) (argsL := []) (rest := [(.int (Int32.ofNat cs.length))]) (a := a) d5_6 (wd29 hw) (wd30 hw) (wd32 hw) (wd31 hw) (by decide) (nf_of C (wd32 hw)) E (Ctr.bk (c_coder l Z a0 G cz fm LG0 h0 n0 X0 a F1) C (wd33 hw) (wd6 hw) (by decide) (by decide)) (by decide) (by decide) rfl (lenOf pd0 rfl) rfl rfl (q := 9) rfl (fun v1 h1 hQ1 => ?_)
  obtain ⟨rfl, rfl⟩ := hQ1
  refine ⟨[(.int (0 : Int32)), (.int (Int32.ofNat cs.length))], rfl, ?_⟩
  refine g_ishr C d5_9 (q := 10) rfl ?_
  rw [shr0]
  refine g_ireturn C d5_10 (Nat.le_refl _) (by decide) (by decide) ⟨rfl, rfl⟩
set_option maxRecDepth 65536 in
set_option maxHeartbeats 40000000 in
theorem c_isl1 (l : Launch) (Z : State) (a0 : Array Value) (G : Gl Z a0) (cz : Int32) (fm : Value) (LG0 : LG Z cz fm) (h0 : Heap) (n0 : Nat) (X0 : Ext Z.heap h0) (a : Addr) (F : Fld Z h0 a "java/lang/String" "coder" "B" (.int 0)) :
    Ctr l Z (⟨"java/lang/String", "isLatin1", "()Z"⟩ : MethodName) jdk_42_method_154_code 1 (some .boolean) rmL0 #[(.ref a)] h0 n0 (fun v h => h0 = h ∧ v = some (.int 1)) := by
  have hw := G.1
  obtain ⟨S0, hcz, SF, hfm⟩ := LG0
  refine Ctr.of (n1 := n0) #[.val (.ref a)] (plainFor_of_name pn0) (fun m => by first | (simp [entryFrame, mkF, argsToLocals, Value.category, maxLocals]; done) | rfl) ?_
  intro p e s m below meth c C
  refine g_gets C d26_0 (host := "") (Or.inl (wd34 hw)) Via.refl (S0.ext X0) (q := 3) rfl ?_
  refine g_if_eq C d26_3 (q' := 17) (q := 6) (by decide) (by decide) rfl (fun hy => absurd hy hcz) (fun hn => ?_)
  refine g_aloadN C d26_6 (v := (.ref a)) rfl rfl (q := 7) rfl ?_
  refine g_getf C d26_7 (host := "") (Or.inl (wd35 hw)) Via.refl F (q := 10) rfl ?_
  refine g_if_ne C d26_10 (q' := 17) (q := 13) (by decide) (by decide) rfl (fun hy => absurd rfl hy) (fun hn => ?_)
  refine g_iconst C d26_13 (z := (1 : Int32)) rfl (q := 14) rfl ?_
  refine g_goto C d26_14 (q := 18) (by decide) (by decide) ?_
  refine g_nreturn C d26_18 (by simp) (z := 1) rfl (Nat.le_refl _) (by decide) (by decide) ⟨rfl, rfl⟩
set_option maxRecDepth 65536 in
set_option maxHeartbeats 40000000 in
theorem c_chkF (l : Launch) (Z : State) (a0 : Array Value) (G : Gl Z a0) (cz : Int32) (fm : Value) (LG0 : LG Z cz fm) (h0 : Heap) (n0 : Nat) (X0 : Ext Z.heap h0) (i n : Nat) (hi : i < n) (hnn : n < 2 ^ 31) :
    Ctr l Z (⟨"jdk/internal/util/Preconditions", "checkIndex", "(IILjava/util/function/BiFunction;)I"⟩ : MethodName) jdk_41_method_11_code 3 (some .int) rmL0 #[(.int (Int32.ofNat i)), (.int (Int32.ofNat n)), fm] h0 n0 (fun v h => h0 = h ∧ v = some (.int (Int32.ofNat i))) := by
  have hw := G.1
  obtain ⟨S0, hcz, SF, hfm⟩ := LG0
  have hc := own_cat hfm
  refine Ctr.of (n1 := n0) #[.val (.int (Int32.ofNat i)), .val (.int (Int32.ofNat n)), .val fm] (plainFor_of_name pn1) (fun m => by rcases ref_cases hfm with rfl | ⟨z, rfl⟩ <;> rfl) ?_
  intro p e s m below meth c C
  refine g_iloadN C d31_0 (v := (Int32.ofNat i)) rfl (q := 1) rfl ?_
  refine g_if_lt C d31_1 (q' := 9) (q := 4) (by decide) (by decide) rfl (fun hy => absurd hy (nn32 (by omega))) (fun hn => ?_)
  refine g_iloadN C d31_4 (v := (Int32.ofNat i)) rfl (q := 5) rfl ?_
  refine g_iloadN C d31_5 (v := (Int32.ofNat n)) rfl (q := 6) rfl ?_
  refine g_icmp_lt C d31_6 (q' := 16) (q := 9) (by decide) (by decide) rfl (fun hy => ?_) (fun hn_ => absurd (by rw [Int32.lt_iff_toInt_lt, Int32.toInt_ofNat_of_lt (by omega), Int32.toInt_ofNat_of_lt hnn]; omega) hn_)
  refine g_iloadN C d31_16 (v := (Int32.ofNat i)) rfl (q := 17) rfl ?_
  refine g_ireturn C d31_17 (Nat.le_refl _) (by decide) (by decide) ⟨rfl, rfl⟩
set_option maxRecDepth 65536 in
set_option maxHeartbeats 40000000 in
theorem c_schk (l : Launch) (Z : State) (a0 : Array Value) (G : Gl Z a0) (cz : Int32) (fm : Value) (LG0 : LG Z cz fm) (h0 : Heap) (n0 : Nat) (X0 : Ext Z.heap h0) (i n : Nat) (hi : i < n) (hnn : n < 2 ^ 31) :
    Ctr l Z (⟨"java/lang/String", "checkIndex", "(II)V"⟩ : MethodName) jdk_42_method_155_code 2 none rmL1 #[(.int (Int32.ofNat i)), (.int (Int32.ofNat n))] h0 n0 (fun v h => h0 = h ∧ v = none) := by
  have LG1 := LG0
  have hw := G.1
  obtain ⟨S0, hcz, SF, hfm⟩ := LG0
  refine Ctr.of (n1 := n0) #[.val (.int (Int32.ofNat i)), .val (.int (Int32.ofNat n))] (plainFor_of_name pn0) (fun m => by first | (simp [entryFrame, mkF, argsToLocals, Value.category, maxLocals]; done) | rfl) ?_
  intro p e s m below meth c C
  refine g_iloadN C d30_0 (v := (Int32.ofNat i)) rfl (q := 1) rfl ?_
  refine g_iloadN C d30_1 (v := (Int32.ofNat n)) rfl (q := 2) rfl ?_
  refine g_gets C d30_2 (host := "") (Or.inl (wd124 hw)) Via.refl (SF.ext X0) (q := 5) rfl ?_
  refine g_callS C (W := 0) (argsL := [(.int (Int32.ofNat i)), (.int (Int32.ofNat n)), fm]) (rest := []) d30_5 (wd126 hw) (wd127 hw) (wd125 hw) (wd128 hw) (by decide) (Ctr.bk (c_chkF l Z a0 G cz fm LG1 h0 n0 X0 i n hi hnn) C (wd128 hw) (wd125 hw) (by decide) (by decide)) (by decide) (by decide) rfl (lenOf pd1 rfl) rfl rfl (q := 8) rfl (fun v1 h1 hQ1 => ?_)
  obtain ⟨rfl, rfl⟩ := hQ1
  refine ⟨[(.int (Int32.ofNat i))], rfl, ?_⟩
  refine g_pop C d30_8 rfl (q := 9) rfl ?_
  refine g_return C d30_9 (Nat.le_refl _) (by decide) (by decide) ⟨rfl, rfl⟩
set_option maxRecDepth 65536 in
set_option maxHeartbeats 40000000 in
theorem c_l1char (l : Launch) (Z : State) (a0 : Array Value) (G : Gl Z a0) (cz : Int32) (fm : Value) (LG0 : LG Z cz fm) (h0 : Heap) (n0 : Nat) (X0 : Ext Z.heap h0) (b : Addr) (cs : List Int32) (i : Nat) (B : Av Z h0 b .byte cs.length (fun j => .int ((cs.getD j 0).toInt8.toInt32))) (hi : i < cs.length) (hnn : cs.length < 2 ^ 31) (hb : ¬ cs.getD i 0 < 0 ∧ ¬ (255 : Int32) < cs.getD i 0) :
    Ctr l Z (⟨"java/lang/StringLatin1", "charAt", "([BI)C"⟩ : MethodName) jdk_43_method_2_code 2 (some .char) rmL2 #[(.ref b), (.int (Int32.ofNat i))] h0 n0 (fun v h => h0 = h ∧ v = some (.int (cs.getD i 0))) := by
  have hw := G.1
  refine Ctr.of (n1 := n0) #[.val (.ref b), .val (.int (Int32.ofNat i))] (plainFor_of_name pn2) (fun m => by first | (simp [entryFrame, mkF, argsToLocals, Value.category, maxLocals]; done) | rfl) ?_
  intro p e s m below meth c C
  refine g_iloadN C d34_0 (v := (Int32.ofNat i)) rfl (q := 1) rfl ?_
  refine g_aloadN C d34_1 (v := (.ref b)) rfl rfl (q := 2) rfl ?_
  refine g_alen C d34_2 B (z := (Int32.ofNat cs.length)) rfl (q := 3) rfl ?_
  refine g_callS C (W := 0) (argsL := [(.int (Int32.ofNat i)), (.int (Int32.ofNat cs.length))]) (rest := []) d34_3 (wd143 hw) (wd122 hw) (wd6 hw) (wd123 hw) (by decide) (Ctr.bk (c_schk l Z a0 G cz fm LG0 h0 n0 X0 i cs.length hi hnn) C (wd123 hw) (wd6 hw) (by decide) (by decide)) (by decide) (by decide) rfl (lenOf pd2 rfl) rfl rfl (q := 6) rfl (fun v1 h1 hQ1 => ?_)
  obtain ⟨rfl, rfl⟩ := hQ1
  refine ⟨[], rfl, ?_⟩
  refine g_aloadN C d34_6 (v := (.ref b)) rfl rfl (q := 7) rfl ?_
  refine g_iloadN C d34_7 (v := (Int32.ofNat i)) rfl (q := 8) rfl ?_
  refine g_baload C d34_8 (i := i) B hi rfl rfl (q := 9) rfl ?_
  refine g_sipush C d34_9 (z := (255 : Int32)) rfl (q := 12) rfl ?_
  refine g_iand C d34_12 (q := 13) rfl ?_
  refine g_i2c C d34_13 (q := 14) rfl ?_
  refine g_nreturn C d34_14 (by simp) (z := cs.getD i 0) (byte_back hb) (Nat.le_refl _) (by decide) (by decide) ⟨rfl, rfl⟩
set_option maxRecDepth 65536 in
set_option maxHeartbeats 40000000 in
theorem c_charAt (l : Launch) (Z : State) (a0 : Array Value) (G : Gl Z a0) (cz : Int32) (fm : Value) (LG0 : LG Z cz fm) (h0 : Heap) (n0 : Nat) (X0 : Ext Z.heap h0) (a : Addr) (cs : List Int32) (S : SL Z h0 a cs) (i : Nat) (hi : i < cs.length) :
    Ctr l Z (⟨"java/lang/String", "charAt", "(I)C"⟩ : MethodName) jdk_42_method_56_code 2 (some .char) rmL3 #[(.ref a), (.int (Int32.ofNat i))] h0 n0 (fun v h => h0 = h ∧ v = some (.int (cs.getD i 0))) := by
  have hw := G.1
  have hnn := S.len
  obtain ⟨b, E, F1, F2, B, hp⟩ := S
  have hb : ¬ cs.getD i 0 < 0 ∧ ¬ (255 : Int32) < cs.getD i 0 := hp _ (by simp [List.getD, hi])
  refine Ctr.of (n1 := n0) #[.val (.ref a), .val (.int (Int32.ofNat i))] (plainFor_of_name pn0) (fun m => by first | (simp [entryFrame, mkF, argsToLocals, Value.category, maxLocals]; done) | rfl) ?_
  intro p e s m below meth c C
  refine g_aloadN C d25_0 (v := (.ref a)) rfl rfl (q := 1) rfl ?_
  refine g_callV C (W := 0) (argsL := []) (rest := []) (a := a) d25_1 (wd107 hw) (wd108 hw) (wd110 hw) (wd109 hw) (by decide) (nf_of C (wd110 hw)) E (Ctr.bk (c_isl1 l Z a0 G cz fm LG0 h0 n0 X0 a F1) C (wd111 hw) (wd6 hw) (by decide) (by decide)) (by decide) (by decide) rfl (lenOf pd3 rfl) rfl rfl (q := 4) rfl (fun v1 h1 hQ1 => ?_)
  obtain ⟨rfl, rfl⟩ := hQ1
  refine ⟨[(.int (1 : Int32))], rfl, ?_⟩
  refine g_if_eq C d25_4 (q' := 16) (q := 7) (by decide) (by decide) rfl (fun hy => absurd hy (by decide)) (fun hn => ?_)
  refine g_aloadN C d25_7 (v := (.ref a)) rfl rfl (q := 8) rfl ?_
  refine g_getf C d25_8 (host := "") (Or.inl (wd28 hw)) Via.refl F2 (q := 11) rfl ?_
  refine g_iloadN C d25_11 (v := (Int32.ofNat i)) rfl (q := 12) rfl ?_
  refine g_callS C (W := 0) (argsL := [(.ref b), (.int (Int32.ofNat i))]) (rest := []) d25_12 (wd140 hw) (wd141 hw) (wd49 hw) (wd142 hw) (by decide) (Ctr.bk (c_l1char l Z a0 G cz fm LG0 h0 n0 X0 b cs i B hi hnn hb) C (wd142 hw) (wd49 hw) (by decide) (by decide)) (by decide) (by decide) rfl (lenOf pd4 rfl) rfl rfl (q := 15) rfl (fun v2 h2 hQ2 => ?_)
  obtain ⟨rfl, rfl⟩ := hQ2
  refine ⟨[(.int (cs.getD i 0))], rfl, ?_⟩
  refine g_nreturn C d25_15 (by simp) (z := cs.getD i 0) (byte_nar hb) (Nat.le_refl _) (by decide) (by decide) ⟨rfl, rfl⟩
abbrev CHR (c : Int32) : Prop := ¬ c < 0 ∧ ¬ (65535 : Int32) < c
def ulo (c : Int32) : Int32 := (c >>> ((0 : Int32) &&& 31)).toInt8.toInt32
def uhi (c : Int32) : Int32 := (c >>> ((8 : Int32) &&& 31)).toInt8.toInt32
theorem chr_of {c : Int32} (h : CHR c) : ∃ k : Nat, k < 65536 ∧ c = Int32.ofNat k := by
  obtain ⟨h1, h2⟩ := h
  rw [Int32.lt_iff_toInt_lt] at h1 h2
  have e0 : (0 : Int32).toInt = 0 := rfl
  have e1 : (65535 : Int32).toInt = 65535 := rfl
  refine ⟨c.toInt.toNat, by omega, ?_⟩
  apply Int32.toInt_inj.mp
  rw [Int32.toInt_ofNat_of_lt (by omega)]
  omega
theorem nar_b (x : Int32) : nar .byte (x.toInt8.toInt32) = x.toInt8.toInt32 := by
  show (x.toInt8.toInt32).toInt8.toInt32 = _
  simp
theorem shr0' (x : Int32) : x >>> ((0 : Int32) &&& 31) = x := by
  apply Int32.toBitVec_inj.mp
  simp
theorem i8_mod (k : Nat) : (Int32.ofNat k).toInt8 = (Int32.ofNat (k % 256)).toInt8 := by
  rw [Int32.toInt8_ofNat', Int32.toInt8_ofNat']
  apply Int8.toBitVec_inj.mp
  apply BitVec.eq_of_toNat_eq
  show (BitVec.ofNat 8 k).toNat = (BitVec.ofNat 8 (k % 256)).toNat
  simp
theorem i8_and (k : Nat) : ((Int32.ofNat k).toInt8.toInt32 &&& 255) = Int32.ofNat (k % 256) := by
  have t1 : ∀ k : Fin 256, ((Int32.ofNat k.val).toInt8.toInt32 &&& 255) = Int32.ofNat k.val := by decide +kernel
  rw [i8_mod]
  exact t1 ⟨k % 256, Nat.mod_lt _ (by decide)⟩
theorem shr8 {k : Nat} (hk : k < 65536) : (Int32.ofNat k) >>> ((8 : Int32) &&& 31) = Int32.ofNat (k / 256) := by
  apply Int32.toBitVec_inj.mp
  have e : ((8 : Int32) &&& 31) = 8 := by decide
  rw [e]
  show BitVec.sshiftRight (BitVec.ofNat 32 k) 8 = BitVec.ofNat 32 (k / 256)
  rw [BitVec.sshiftRight_eq_of_msb_false (by simp [BitVec.msb_eq_decide]; omega)]
  apply BitVec.eq_of_toNat_eq
  simp [Nat.shiftRight_eq_div_pow]
  omega
theorem shl8 : ∀ u : Fin 256, (Int32.ofNat u.val) <<< ((8 : Int32) &&& 31) = Int32.ofNat (2 ^ 8 * u.val) := by decide +kernel
theorem shl0' (x : Int32) : x <<< ((0 : Int32) &&& 31) = x := by
  apply Int32.toBitVec_inj.mp
  simp
theorem or_nat (a b : Nat) (ha : a < 2 ^ 32) (hb : b < 2 ^ 32) : Int32.ofNat a ||| Int32.ofNat b = Int32.ofNat (a ||| b) := by
  apply Int32.toBitVec_inj.mp
  apply BitVec.eq_of_toNat_eq
  simp [Nat.mod_eq_of_lt ha, Nat.mod_eq_of_lt hb, Nat.mod_eq_of_lt (Nat.or_lt_two_pow ha hb)]
theorem i2c_nat {k : Nat} (hk : k < 65536) : (Int32.ofNat k).toUInt32.toUInt16.toUInt32.toInt32 = Int32.ofNat k := by
  apply Int32.toBitVec_inj.mp
  apply BitVec.eq_of_toNat_eq
  show ((BitVec.setWidth 32 (BitVec.setWidth 16 (BitVec.ofNat 32 k)))).toNat = (BitVec.ofNat 32 k).toNat
  simp
  omega
theorem u_or {k : Nat} (hk : k < 65536) : (((ulo (Int32.ofNat k)) &&& 255) <<< ((0 : Int32) &&& 31)) ||| (((uhi (Int32.ofNat k)) &&& 255) <<< ((8 : Int32) &&& 31)) = Int32.ofNat k := by
  unfold ulo uhi
  rw [shr0', shr8 hk, i8_and, i8_and, shl0', Nat.mod_eq_of_lt (show k / 256 < 256 by omega), shl8 ⟨k / 256, by omega⟩, or_nat _ _ (by omega) (by show 2 ^ 8 * (k / 256) < 2 ^ 32; omega)]
  congr 1
  show k % 256 ||| 2 ^ 8 * (k / 256) = k
  rw [Nat.or_comm, ← Nat.two_pow_add_eq_or_of_lt (show k % 256 < 2 ^ 8 by omega)]
  omega
theorem u_back {c : Int32} (h : CHR c) : ((((ulo c) &&& 255) <<< ((0 : Int32) &&& 31)) ||| (((uhi c) &&& 255) <<< ((8 : Int32) &&& 31))).toUInt32.toUInt16.toUInt32.toInt32 = c := by
  obtain ⟨k, hk, rfl⟩ := chr_of h
  rw [u_or hk, i2c_nat hk]
theorem chr_i2c {c : Int32} (h : CHR c) : c.toUInt32.toUInt16.toUInt32.toInt32 = c := by
  obtain ⟨k, hk, rfl⟩ := chr_of h
  exact i2c_nat hk
theorem chr_nar {c : Int32} (h : CHR c) : nar .char c = c := chr_i2c h
theorem i2c_chr (x : Int32) : CHR (x.toUInt32.toUInt16.toUInt32.toInt32) := by
  have e : x.toUInt32.toUInt16.toUInt32.toInt32 = Int32.ofNat (x.toUInt32.toUInt16.toNat) := by
    apply Int32.toBitVec_inj.mp
    apply BitVec.eq_of_toNat_eq
    show (BitVec.setWidth 32 (BitVec.setWidth 16 x.toBitVec)).toNat = (BitVec.ofNat 32 (BitVec.setWidth 16 x.toBitVec).toNat).toNat
    simp
  rw [e]
  have hk : x.toUInt32.toUInt16.toNat < 65536 := x.toUInt32.toUInt16.toNat_lt
  generalize x.toUInt32.toUInt16.toNat = k at hk
  constructor
  · rw [Int32.lt_iff_toInt_lt, Int32.toInt_ofNat_of_lt (by omega)]; have : (0 : Int32).toInt = 0 := rfl; omega
  · rw [Int32.lt_iff_toInt_lt, Int32.toInt_ofNat_of_lt (by omega)]; have : (65535 : Int32).toInt = 65535 := rfl; omega
theorem shl1 (i : Nat) : (Int32.ofNat i) <<< ((1 : Int32) &&& 31) = Int32.ofNat (2 * i) := by
  apply Int32.toBitVec_inj.mp
  have e : ((1 : Int32) &&& 31) = 1 := by decide
  rw [e]
  show BitVec.shiftLeft (BitVec.ofNat 32 i) 1 = BitVec.ofNat 32 (2 * i)
  apply BitVec.eq_of_toNat_eq
  simp [Nat.shiftLeft_eq, Nat.mul_comm]
theorem shr1 {i : Nat} (hi : 2 * i < 2 ^ 31) : (Int32.ofNat (2 * i)) >>> ((1 : Int32) &&& 31) = Int32.ofNat i := by
  apply Int32.toBitVec_inj.mp
  have e : ((1 : Int32) &&& 31) = 1 := by decide
  rw [e]
  show BitVec.sshiftRight (BitVec.ofNat 32 (2 * i)) 1 = BitVec.ofNat 32 i
  rw [BitVec.sshiftRight_eq_of_msb_false (by simp [BitVec.msb_eq_decide]; omega)]
  apply BitVec.eq_of_toNat_eq
  simp [Nat.shiftRight_eq_div_pow]
  omega
theorem lt_nat {i n : Nat} (h : i < n) (hn : n < 2 ^ 31) : Int32.ofNat i < Int32.ofNat n := by
  rw [Int32.lt_iff_toInt_lt, Int32.toInt_ofNat_of_lt (by omega), Int32.toInt_ofNat_of_lt hn]; omega
theorem nlt_nat {i n : Nat} (h : ¬ i < n) (hi : i < 2 ^ 31) (hn : n < 2 ^ 31) : ¬ Int32.ofNat i < Int32.ofNat n := by
  rw [Int32.lt_iff_toInt_lt, Int32.toInt_ofNat_of_lt hi, Int32.toInt_ofNat_of_lt hn]; omega
theorem of_inj {i n : Nat} (hi : i < 2 ^ 31) (hn : n < 2 ^ 31) (e : Int32.ofNat i = Int32.ofNat n) : i = n := by
  have e := congrArg Int32.toInt e
  rw [Int32.toInt_ofNat_of_lt hi, Int32.toInt_ofNat_of_lt hn] at e; omega
theorem of_succ (i : Nat) : Int32.ofNat i + 1 = Int32.ofNat (i + 1) := by rw [Int32.ofNat_add]; rfl
theorem ushr_len : ∀ n : Fin 9, ¬ n.val = 0 → (XT.ushr (Int32.ofNat n.val - Int32.ofNat (2 * n.val)) 31).toInt8.toInt32 = 1 := by decide +kernel
theorem ushr_len0 : ∀ n : Fin 9, (XT.ushr (Int32.ofNat n.val - Int32.ofNat n.val) 31).toInt8.toInt32 = 0 := by decide +kernel
/-- the bytes of a UTF-16 array -/
def ub (cs : List Int32) (j : Nat) : Value := if j % 2 = 0 then .int (ulo (cs.getD (j / 2) 0)) else .int (uhi (cs.getD (j / 2) 0))
theorem ub_lo (cs : List Int32) (i : Nat) : ub cs (2 * i) = .int (ulo (cs.getD i 0)) := by
  unfold ub; rw [if_pos (by omega), show 2 * i / 2 = i by omega]
theorem ub_hi (cs : List Int32) (i : Nat) : ub cs (2 * i + 1) = .int (uhi (cs.getD i 0)) := by
  unfold ub; rw [if_neg (by omega), show (2 * i + 1) / 2 = i by omega]
def SU (Z : State) (h : Heap) (a : Addr) (cs : List Int32) : Prop := ∃ b, Exa Z h a "java/lang/String" ∧ Fld Z h a "java/lang/String" "coder" "B" (.int 1) ∧ Fld Z h a "java/lang/String" "value" "[B" (.ref b) ∧ Av Z h b .byte (2 * cs.length) (ub cs) ∧ ∀ c ∈ cs, CHR c
/-- the String at a spells cs, in either coder -/
def SG (Z : State) (h : Heap) (a : Addr) (cs : List Int32) : Prop := SL Z h a cs ∨ SU Z h a cs
theorem SU.exa {Z : State} {h : Heap} {a : Addr} {cs : List Int32} (S : SU Z h a cs) : Exa Z h a "java/lang/String" := by obtain ⟨b, E, -⟩ := S; exact E
theorem SU.ext {Z : State} {h h' : Heap} {a : Addr} {cs : List Int32} (S : SU Z h a cs) (E : Ext h h') : SU Z h' a cs := by obtain ⟨b, r1, r2, r3, r4, r5⟩ := S; exact ⟨b, r1.ext E, r2.ext E, r3.ext E, r4.ext E, r5⟩
theorem SU.keep {Z : State} {h h' : Heap} {a : Addr} {cs : List Int32} {ws : List Addr} (S : SU Z h a cs) (K : Keep h h' ws) (q : ∀ x ∈ ws, h.size ≤ x) : SU Z h' a cs := by
  obtain ⟨b, r1, r2, r3, r4, r5⟩ := S
  have n1 : a ∉ ws := fun hm => Nat.not_lt.mpr (q a hm) r1.lt
  have n2 : b ∉ ws := fun hm => Nat.not_lt.mpr (q b hm) r4.lt
  exact ⟨b, r1.keep K, r2.keep K n1, r3.keep K n1, r4.keep K n2, r5⟩
theorem SU.len {Z : State} {h : Heap} {a : Addr} {cs : List Int32} (S : SU Z h a cs) : 2 * cs.length < 2 ^ 31 := by obtain ⟨b, -, -, -, ⟨_, _, _, r, _⟩, -⟩ := S; exact r
theorem SG.exa {Z : State} {h : Heap} {a : Addr} {cs : List Int32} (S : SG Z h a cs) : Exa Z h a "java/lang/String" := S.elim SL.exa SU.exa
theorem SG.ext {Z : State} {h h' : Heap} {a : Addr} {cs : List Int32} (S : SG Z h a cs) (E : Ext h h') : SG Z h' a cs := S.elim (fun S => Or.inl (S.ext E)) (fun S => Or.inr (S.ext E))
theorem SG.keep {Z : State} {h h' : Heap} {a : Addr} {cs : List Int32} {ws : List Addr} (S : SG Z h a cs) (K : Keep h h' ws) (q : ∀ x ∈ ws, h.size ≤ x) : SG Z h' a cs := S.elim (fun S => Or.inl (S.keep K q)) (fun S => Or.inr (S.keep K q))
theorem SG.len {Z : State} {h : Heap} {a : Addr} {cs : List Int32} (S : SG Z h a cs) : cs.length < 2 ^ 31 := S.elim SL.len (fun S => by have := S.len; omega)
/-- the statics of StringUTF16 -/
def UG (Z : State) : Prop := Sta Z Z.heap "java/lang/StringUTF16" "$assertionsDisabled" "Z" (.int 1) ∧ Sta Z Z.heap "java/lang/StringUTF16" "HI_BYTE_SHIFT" "I" (.int 0) ∧ Sta Z Z.heap "java/lang/StringUTF16" "LO_BYTE_SHIFT" "I" (.int 8)
abbrev rmU0 : Room := { frames := 0, cells := 0, slots := 0, locals := 0 }
abbrev rmU1 : Room := { frames := 1, cells := 1, slots := 16, locals := 24 }
abbrev rmU2 : Room := { frames := 2, cells := 1, slots := 16, locals := 48 }
abbrev rmU3 : Room := { frames := 3, cells := 2, slots := 24, locals := 72 }
abbrev rmU4 : Room := { frames := 4, cells := 2, slots := 24, locals := 96 }
abbrev rmU5 : Room := { frames := 5, cells := 2, slots := 24, locals := 120 }
set_option maxRecDepth 65536 in
set_option maxHeartbeats 40000000 in
theorem c_putChar (l : Launch) (Z : State) (a0 : Array Value) (G : Gl Z a0) (UG0 : UG Z) (h0 : Heap) (n0 : Nat) (X0 : Ext Z.heap h0) (b : Addr) (i M : Nat) (ch : Int32) (g : Nat → Value) (B : Av Z h0 b .byte M g) (hi : 2 * i + 1 < M) (gb : n0 ≤ b) (gz : Z.heap.size ≤ b) :
    Ctr l Z (⟨"java/lang/StringUTF16", "putChar", "([BII)V"⟩ : MethodName) jdk_52_method_4_code 3 none rmU0 #[(.ref b), (.int (Int32.ofNat i)), (.int ch)] h0 n0 (fun v h => v = none ∧ Keep h0 h [b] ∧ Av Z h b .byte M (fun j => if j = 2 * i + 1 then .int (uhi ch) else if j = 2 * i then .int (ulo ch) else g j)) := by
  have hw := G.1
  refine Ctr.of (n1 := n0) #[.val (.ref b), .val (.int (Int32.ofNat i)), .val (.int ch)] (plainFor_of_name pn3) (fun m => by first | (simp [entryFrame, mkF, argsToLocals, Value.category, maxLocals]; done) | rfl) ?_
  intro p e s m below meth c C
  refine g_gets C d15_0 (host := "") (Or.inl (wd69 hw)) Via.refl (UG0.1.ext X0) (q := 3) rfl ?_
  refine g_if_ne C d15_3 (q' := 28) (q := 6) (by decide) (by decide) rfl (fun hy => ?_) (fun hn => absurd hn (by decide))
  refine g_iloadN C d15_28 (v := (Int32.ofNat i)) rfl (q := 29) rfl ?_
  refine g_iconst C d15_29 (z := (1 : Int32)) rfl (q := 30) rfl ?_
  refine g_ishl C d15_30 (q := 31) rfl ?_
  rw [shl1]
  refine g_istoreN C d15_31 (L' := #[.val (.ref b), .val (.int (Int32.ofNat (2 * i))), .val (.int ch)]) rfl (q := 32) rfl ?_
  refine g_aloadN C d15_32 (v := (.ref b)) rfl rfl (q := 33) rfl ?_
  refine g_iloadN C d15_33 (v := (Int32.ofNat (2 * i))) rfl (q := 34) rfl ?_
  refine g_iinc C d15_34 rfl (L' := #[.val (.ref b), .val (.int ((Int32.ofNat (2 * i)) + (1 : Int32))), .val (.int ch)]) rfl (q := 37) rfl ?_
  refine g_iloadN C d15_37 (v := ch) rfl (q := 38) rfl ?_
  rw [of_succ]
  refine g_gets C d15_38 (host := "") (Or.inl (wd70 hw)) Via.refl (UG0.2.1.ext X0) (q := 41) rfl ?_
  refine g_ishr C d15_41 (q := 42) rfl ?_
  refine g_i2b C d15_42 (q := 43) rfl ?_
  refine g_bastore C d15_43 (i := (2 * i)) B (by omega) rfl gb (q := 44) rfl (fun h1 W1 B1 => ?_)
  have X1 := Ext.wr X0 W1 gz
  refine g_aloadN C d15_44 (v := (.ref b)) rfl rfl (q := 45) rfl ?_
  refine g_iloadN C d15_45 (v := (Int32.ofNat (2 * i + 1))) rfl (q := 46) rfl ?_
  refine g_iloadN C d15_46 (v := ch) rfl (q := 47) rfl ?_
  refine g_gets C d15_47 (host := "") (Or.inl (wd71 hw)) Via.refl (UG0.2.2.ext X1) (q := 50) rfl ?_
  refine g_ishr C d15_50 (q := 51) rfl ?_
  refine g_i2b C d15_51 (q := 52) rfl ?_
  refine g_bastore C d15_52 (i := (2 * i + 1)) B1 hi rfl gb (q := 53) rfl (fun h2 W2 B2 => ?_)
  refine g_return C d15_53 (Nat.le_refl _) (by decide) (by decide) ⟨rfl, ((Keep.refl h0 [b]).wr W1 (Or.inl (by simp))).wr W2 (Or.inl (by simp)), B2.congr (fun j hj => by rw [nar_b, nar_b]; rfl)⟩
set_option maxRecDepth 65536 in
set_option maxHeartbeats 40000000 in
theorem c_getChar (l : Launch) (Z : State) (a0 : Array Value) (G : Gl Z a0) (UG0 : UG Z) (h0 : Heap) (n0 : Nat) (X0 : Ext Z.heap h0) (b : Addr) (i M : Nat) (ch : Int32) (g : Nat → Value) (B : Av Z h0 b .byte M g) (hi : 2 * i + 1 < M) (hch : CHR ch) (h1 : g (2 * i) = .int (ulo ch)) (h2 : g (2 * i + 1) = .int (uhi ch)) :
    Ctr l Z (⟨"java/lang/StringUTF16", "getChar", "([BI)C"⟩ : MethodName) jdk_52_method_5_code 2 (some .char) rmU0 #[(.ref b), (.int (Int32.ofNat i))] h0 n0 (fun v h => h0 = h ∧ v = some (.int ch)) := by
  have hw := G.1
  refine Ctr.of (n1 := n0) #[.val (.ref b), .val (.int (Int32.ofNat i))] (plainFor_of_name pn3) (fun m => by first | (simp [entryFrame, mkF, argsToLocals, Value.category, maxLocals]; done) | rfl) ?_
  intro p e s m below meth c C
  refine g_gets C d23_0 (host := "") (Or.inl (wd69 hw)) Via.refl (UG0.1.ext X0) (q := 3) rfl ?_
  refine g_if_ne C d23_3 (q' := 28) (q := 6) (by decide) (by decide) rfl (fun hy => ?_) (fun hn => absurd hn (by decide))
  refine g_iloadN C d23_28 (v := (Int32.ofNat i)) rfl (q := 29) rfl ?_
  refine g_iconst C d23_29 (z := (1 : Int32)) rfl (q := 30) rfl ?_
  refine g_ishl C d23_30 (q := 31) rfl ?_
  rw [shl1]
  refine g_istoreN C d23_31 (L' := #[.val (.ref b), .val (.int (Int32.ofNat (2 * i)))]) rfl (q := 32) rfl ?_
  refine g_aloadN C d23_32 (v := (.ref b)) rfl rfl (q := 33) rfl ?_
  refine g_iloadN C d23_33 (v := (Int32.ofNat (2 * i))) rfl (q := 34) rfl ?_
  refine g_iinc C d23_34 rfl (L' := #[.val (.ref b), .val (.int ((Int32.ofNat (2 * i)) + (1 : Int32)))]) rfl (q := 37) rfl ?_
  rw [of_succ]
  refine g_baload C d23_37 (i := (2 * i)) B (by omega) rfl h1 (q := 38) rfl ?_
  refine g_sipush C d23_38 (z := (255 : Int32)) rfl (q := 41) rfl ?_
  refine g_iand C d23_41 (q := 42) rfl ?_
  refine g_gets C d23_42 (host := "") (Or.inl (wd70 hw)) Via.refl (UG0.2.1.ext X0) (q := 45) rfl ?_
  refine g_ishl C d23_45 (q := 46) rfl ?_
  refine g_aloadN C d23_46 (v := (.ref b)) rfl rfl (q := 47) rfl ?_
  refine g_iloadN C d23_47 (v := (Int32.ofNat (2 * i + 1))) rfl (q := 48) rfl ?_
  refine g_baload C d23_48 (i := (2 * i + 1)) B hi rfl h2 (q := 49) rfl ?_
  refine g_sipush C d23_49 (z := (255 : Int32)) rfl (q := 52) rfl ?_
  refine g_iand C d23_52 (q := 53) rfl ?_
  refine g_gets C d23_53 (host := "") (Or.inl (wd71 hw)) Via.refl (UG0.2.2.ext X0) (q := 56) rfl ?_
  refine g_ishl C d23_56 (q := 57) rfl ?_
  refine g_ior C d23_57 (q := 58) rfl ?_
  refine g_i2c C d23_58 (q := 59) rfl ?_
  refine g_nreturn C d23_59 (by simp) (z := ch) (by rw [u_back hch]; exact chr_nar hch) (Nat.le_refl _) (by decide) (by decide) ⟨rfl, rfl⟩
set_option maxRecDepth 65536 in
set_option maxHeartbeats 40000000 in
theorem c_nbl (l : Launch) (Z : State) (a0 : Array Value) (G : Gl Z a0) (n : Nat) (hn8 : n ≤ 8) (h0 : Heap) (n0 : Nat) :
    Ctr l Z (⟨"java/lang/StringUTF16", "newBytesLength", "(I)I"⟩ : MethodName) jdk_52_method_3_code 1 (some .int) rmU0 #[(.int (Int32.ofNat n))] h0 n0 (fun v h => h0 = h ∧ v = some (.int (Int32.ofNat (2 * n)))) := by
  have hw := G.1
  refine Ctr.of (n1 := n0) #[.val (.int (Int32.ofNat n))] (plainFor_of_name pn3) (fun m => by first | (simp [entryFrame, mkF, argsToLocals, Value.category, maxLocals]; done) | rfl) ?_
  intro p e s m below meth c C
  refine g_iloadN C d22_0 (v := (Int32.ofNat n)) rfl (q := 1) rfl ?_
  refine g_if_ge C d22_1 (q' := 12) (q := 4) (by decide) (by decide) rfl (fun hy => ?_) (fun hn_ => absurd hn_ (nn32 (by omega)))
  refine g_iloadN C d22_12 (v := (Int32.ofNat n)) rfl (q := 13) rfl ?_
  refine g_ldcInt C d22_13 (wd95 hw) (q := 15) rfl ?_
  refine g_icmp_lt C d22_15 (q' := 55) (q := 18) (by decide) (by decide) rfl (fun hy => ?_) (fun hn_ => absurd (lt_nat (n := 1073741823) (by omega) (by decide)) hn_)
  refine g_iloadN C d22_55 (v := (Int32.ofNat n)) rfl (q := 56) rfl ?_
  refine g_iconst C d22_56 (z := (1 : Int32)) rfl (q := 57) rfl ?_
  refine g_ishl C d22_57 (q := 58) rfl ?_
  rw [shl1]
  refine g_ireturn C d22_58 (Nat.le_refl _) (by decide) (by decide) ⟨rfl, rfl⟩
set_option maxRecDepth 65536 in
set_option maxHeartbeats 40000000 in
theorem c_nbf (l : Launch) (Z : State) (a0 : Array Value) (G : Gl Z a0) (n : Nat) (hn8 : n ≤ 8) (h0 : Heap) (n0 : Nat) :
    Ctr l Z (⟨"java/lang/StringUTF16", "newBytesFor", "(I)[B"⟩ : MethodName) jdk_52_method_2_code 1 (some (.array .byte)) rmU1 #[(.int (Int32.ofNat n))] h0 n0 (fun v h => ∃ b, v = some (.ref b) ∧ h0.size ≤ b ∧ Ext h0 h ∧ Av Z h b .byte (2 * n) (fun _ => .int 0)) := by
  have hw := G.1
  refine Ctr.of (n1 := n0) #[.val (.int (Int32.ofNat n))] (plainFor_of_name pn3) (fun m => by first | (simp [entryFrame, mkF, argsToLocals, Value.category, maxLocals]; done) | rfl) ?_
  intro p e s m below meth c C
  refine g_iloadN C d21_0 (v := (Int32.ofNat n)) rfl (q := 1) rfl ?_
  refine g_callS C (W := 0) (argsL := [(.int (Int32.ofNat n))]) (rest := []) d21_1 (wd92 hw) (wd93 hw) (wd64 hw) (wd94 hw) (by decide) (Ctr.bk (c_nbl l Z a0 G n hn8 h0 n0) C (wd94 hw) (wd64 hw) (by decide) (by decide)) (by decide) (by decide) rfl (lenOf pd5 rfl) rfl rfl (q := 4) rfl (fun v1 h1 hQ1 => ?_)
  obtain ⟨rfl, rfl⟩ := hQ1
  refine ⟨[(.int (Int32.ofNat (2 * n)))], rfl, ?_⟩
  refine g_newarray C d21_4 (wd8 hw) (nn32 (by omega)) (cap := 16) (by rw [Int32.toNatClampNeg_ofNat_of_lt (by omega)]; omega) (by decide) (by decide) (by decide) (q := 6) rfl (fun b h1 k1 q1 E1 A1 => ?_)
  have B1 : Av Z h1 b .byte (2 * n) (fun _ => .int 0) := by
    have q := Av.new A1 (nn32 (show 2 * n < 2 ^ 31 by omega))
    rw [Int32.toNatClampNeg_ofNat_of_lt (by omega)] at q
    exact q
  refine g_areturn C d21_6 rfl rfl (Nat.le_refl _) (by decide) (by decide) ⟨b, rfl, by rw [q1]; exact Nat.le_refl _, E1, B1⟩
set_option maxRecDepth 65536 in
set_option maxHeartbeats 40000000 in
theorem loopTB {p : Program} {e : Env} {s : State} {m : MethodId} {args : Array Value} {below : List Frame} {meth : Method} {c : Code} (l : Launch) (Z : State) (a0 : Array Value) (G : Gl Z a0) (UG0 : UG Z) (h0 : Heap) (n0 : Nat) (X0 : Ext Z.heap h0) (Z0 : n0 ≤ h0.size) (a : Addr) (cs : List Int32) (n : Nat) (hcn : cs.length = n) (hn8 : n ≤ 8) (hch : ∀ c ∈ cs, CHR c) (A0 : Av Z h0 a .char n (fun j => .int (cs.getD j 0))) (C : Cx p s m meth c Z "java/lang/StringUTF16" "toBytes" jdk_52_method_14_code 5 (some (.array .byte))) (b : Addr) (gb0 : h0.size ≤ b) (d i : Nat) (h : Heap) (g : Nat → Value) (hd : d = n - i) (hin : i ≤ n) (K : Keep h0 h []) (B : Av Z h b .byte (2 * n) g) (hg : ∀ j, j < 2 * i → g j = ub cs j) :
    Go p l e rmU2 s m args below meth c (FinN s below rmU2 n0 (fun v h => ∃ b, v = some (.ref b) ∧ h0.size ≤ b ∧ Keep h0 h [] ∧ Av Z h b .byte (2 * n) (ub cs))) n0 h 1 16 8 #[.val (.ref a), .val (.int (Int32.ofNat i)), .val (.int (Int32.ofNat n)), .val (.ref b), .val (.int (Int32.ofNat i))] [] := by
  have hw := G.1
  induction d generalizing i h g with
  | zero =>
    obtain rfl : i = n := by omega
    refine g_iload C d20_8 (v := (Int32.ofNat i)) rfl (q := 10) rfl ?_
    refine g_iloadN C d20_10 (v := (Int32.ofNat i)) rfl (q := 11) rfl ?_
    refine g_icmp_ge C d20_11 (q' := 32) (q := 14) (by decide) (by decide) rfl (fun hy => ?_) (fun hn => absurd hn (nlt_nat (Nat.lt_irrefl _) (by omega) (by omega)))
    refine g_aloadN C d20_32 (v := (.ref b)) rfl rfl (q := 33) rfl ?_
    refine g_areturn C d20_33 rfl rfl (Nat.le_refl _) (by decide) (by decide) ⟨b, rfl, gb0, K, B.congr hg⟩
  | succ d ih =>
    have hi : i < n := by omega
    have A1 := A0.keep K (by simp)
    have X1 := Ext.keep X0 K (by simp)
    refine g_iload C d20_8 (v := (Int32.ofNat i)) rfl (q := 10) rfl ?_
    refine g_iloadN C d20_10 (v := (Int32.ofNat n)) rfl (q := 11) rfl ?_
    refine g_icmp_ge C d20_11 (q' := 32) (q := 14) (by decide) (by decide) rfl (fun hy => absurd (lt_nat hi (by omega)) hy) (fun hn => ?_)
    refine g_aloadN C d20_14 (v := (.ref b)) rfl rfl (q := 15) rfl ?_
    refine g_iload C d20_15 (v := (Int32.ofNat i)) rfl (q := 17) rfl ?_
    refine g_aloadN C d20_17 (v := (.ref a)) rfl rfl (q := 18) rfl ?_
    refine g_iloadN C d20_18 (v := (Int32.ofNat i)) rfl (q := 19) rfl ?_
    refine g_caload C d20_19 (i := i) A1 hi rfl rfl (q := 20) rfl ?_
    refine g_callS C (W := 0) (argsL := [(.ref b), (.int (Int32.ofNat i)), (.int (cs.getD i 0))]) (rest := []) d20_20 (wd66 hw) (wd67 hw) (wd64 hw) (wd68 hw) (by decide) (Ctr.bk (c_putChar l Z a0 G UG0 h n0 X1 b i (2 * n) (cs.getD i 0) g B (by omega) (Nat.le_trans Z0 gb0) (Nat.le_trans X0.1 gb0)) C (wd68 hw) (wd64 hw) (by decide) (by decide)) (by decide) (by decide) rfl (lenOf pd6 rfl) rfl rfl (q := 23) rfl (fun v1 h1 hQ1 => ?_)
    obtain ⟨rfl, K1, B1⟩ := hQ1
    refine ⟨[], rfl, ?_⟩
    refine g_iinc C d20_23 rfl (L' := #[.val (.ref a), .val (.int ((Int32.ofNat i) + (1 : Int32))), .val (.int (Int32.ofNat n)), .val (.ref b), .val (.int (Int32.ofNat i))]) rfl (q := 26) rfl ?_
    refine g_iinc C d20_26 rfl (L' := #[.val (.ref a), .val (.int ((Int32.ofNat i) + (1 : Int32))), .val (.int (Int32.ofNat n)), .val (.ref b), .val (.int ((Int32.ofNat i) + (1 : Int32)))]) rfl (q := 29) rfl ?_
    refine g_goto C d20_29 (q := 8) (by decide) (by decide) ?_
    rw [of_succ]
    exact ih (i + 1) h1 _ (by omega) (by omega) (K.trans K1 (fun x hx => Or.inr (by cases List.mem_singleton.mp hx; exact gb0))) B1 (fun j hj => by
      by_cases e1 : j = 2 * i + 1
      · rw [if_pos e1, e1, ub_hi]
      · by_cases e2 : j = 2 * i
        · rw [if_neg e1, if_pos e2, e2, ub_lo]
        · rw [if_neg e1, if_neg e2]; exact hg j (by omega))
set_option maxRecDepth 65536 in
set_option maxHeartbeats 40000000 in
theorem c_toBytes (l : Launch) (Z : State) (a0 : Array Value) (G : Gl Z a0) (UG0 : UG Z) (h0 : Heap) (n0 : Nat) (X0 : Ext Z.heap h0) (Z0 : n0 ≤ h0.size) (a : Addr) (cs : List Int32) (n : Nat) (hcn : cs.length = n) (hn8 : n ≤ 8) (hch : ∀ c ∈ cs, CHR c) (A0 : Av Z h0 a .char n (fun j => .int (cs.getD j 0))) :
    Ctr l Z (⟨"java/lang/StringUTF16", "toBytes", "([CII)[B"⟩ : MethodName) jdk_52_method_14_code 5 (some (.array .byte)) rmU2 #[(.ref a), (.int (0 : Int32)), (.int (Int32.ofNat n))] h0 n0 (fun v h => ∃ b, v = some (.ref b) ∧ h0.size ≤ b ∧ Keep h0 h [] ∧ Av Z h b .byte (2 * n) (ub cs)) := by
  have hw := G.1
  refine Ctr.of (n1 := n0) #[.val (.ref a), .val (.int (0 : Int32)), .val (.int (Int32.ofNat n)), .unset, .unset] (plainFor_of_name pn3) (fun m => by first | (simp [entryFrame, mkF, argsToLocals, Value.category, maxLocals]; done) | rfl) ?_
  intro p e s m below meth c C
  refine g_iloadN C d20_0 (v := (Int32.ofNat n)) rfl (q := 1) rfl ?_
  refine g_callS C (W := 0) (argsL := [(.int (Int32.ofNat n))]) (rest := []) d20_1 (wd89 hw) (wd90 hw) (wd64 hw) (wd91 hw) (by decide) (Ctr.bk (c_nbf l Z a0 G n hn8 h0 n0) C (wd91 hw) (wd64 hw) (by decide) (by decide)) (by decide) (by decide) rfl (lenOf pd7 rfl) rfl rfl (q := 4) rfl (fun v1 h1 hQ1 => ?_)
  obtain ⟨b, rfl, gb, E1, B1⟩ := hQ1
  refine ⟨[(.ref b)], rfl, ?_⟩
  refine g_astoreN C d20_4 rfl (L' := #[.val (.ref a), .val (.int (0 : Int32)), .val (.int (Int32.ofNat n)), .val (.ref b), .unset]) rfl (q := 5) rfl ?_
  refine g_iconst C d20_5 (z := (0 : Int32)) rfl (q := 6) rfl ?_
  refine g_istore C d20_6 (L' := #[.val (.ref a), .val (.int (0 : Int32)), .val (.int (Int32.ofNat n)), .val (.ref b), .val (.int (0 : Int32))]) rfl (q := 8) rfl ?_
  exact loopTB l Z a0 G UG0 h0 n0 X0 Z0 a cs n hcn hn8 hch A0 C b gb n 0 h1 _ (by omega) (by omega) (Ext.kp E1 []) B1 (fun j hj => absurd hj (by omega))
set_option maxRecDepth 65536 in
set_option maxHeartbeats 40000000 in
theorem loopCP {p : Program} {e : Env} {s : State} {m : MethodId} {args : Array Value} {below : List Frame} {meth : Method} {c : Code} (l : Launch) (Z : State) (a0 : Array Value) (G : Gl Z a0) (h0 : Heap) (n0 : Nat) (a : Addr) (cs : List Int32) (n : Nat) (hcn : cs.length = n) (hn8 : n ≤ 8) (hch : ∀ c ∈ cs, CHR c) (A0 : Av Z h0 a .char n (fun j => .int (cs.getD j 0))) (C : Cx p s m meth c Z "java/lang/StringUTF16" "compress" jdk_52_method_21_code 7 (some .int)) (b : Addr) (gb : n0 ≤ b) (nab : a ≠ b) (d i : Nat) (h : Heap) (g : Nat → Value) (s6 : Slot) (hd : d = n - i) (hin : i ≤ n) (K : Keep h0 h [b]) (B : Av Z h b .byte n g) (hg : ∀ j, j < i → g j = .int ((cs.getD j 0).toInt8.toInt32)) (hle : ∀ j, j < i → ¬ (255 : Int32) < cs.getD j 0) (hs6 : s6 = .unset ∨ ∃ x, s6 = .val (.int x)) :
    Go p l e rmU0 s m args below meth c (FinN s below rmU0 n0 (fun v h => Keep h0 h [b] ∧ ((v = some (.int (Int32.ofNat n)) ∧ (∀ j, j < n → ¬ (255 : Int32) < cs.getD j 0) ∧ Av Z h b .byte n (fun j => .int ((cs.getD j 0).toInt8.toInt32))) ∨ ∃ i, i < n ∧ v = some (.int (Int32.ofNat i)) ∧ (255 : Int32) < cs.getD i 0))) n0 h 0 0 3 #[.val (.ref a), .val (.int (Int32.ofNat i)), .val (.ref b), .val (.int (Int32.ofNat i)), .val (.int (Int32.ofNat n)), .val (.int (Int32.ofNat i)), s6] [] := by
  have hw := G.1
  induction d generalizing i h g s6 with
  | zero =>
    obtain rfl : i = n := by omega
    refine g_iload C d19_3 (v := (Int32.ofNat i)) rfl (q := 5) rfl ?_
    refine g_iload C d19_5 (v := (Int32.ofNat i)) rfl (q := 7) rfl ?_
    refine g_icmp_ge C d19_7 (q' := 44) (q := 10) (by decide) (by decide) rfl (fun hy => ?_) (fun hn => absurd hn (nlt_nat (Nat.lt_irrefl _) (by omega) (by omega)))
    refine g_iload C d19_44 (v := (Int32.ofNat i)) rfl (q := 46) rfl ?_
    refine g_ireturn C d19_46 (Nat.le_refl _) (by decide) (by decide) ⟨K, Or.inl ⟨rfl, hle, B.congr hg⟩⟩
  | succ d ih =>
    have hi : i < n := by omega
    have A1 := A0.keep K (by simpa using nab)
    refine g_iload C d19_3 (v := (Int32.ofNat i)) rfl (q := 5) rfl ?_
    refine g_iload C d19_5 (v := (Int32.ofNat n)) rfl (q := 7) rfl ?_
    refine g_icmp_ge C d19_7 (q' := 44) (q := 10) (by decide) (by decide) rfl (fun hy => absurd (lt_nat hi (by omega)) hy) (fun hn => ?_)
    refine g_aloadN C d19_10 (v := (.ref a)) rfl rfl (q := 11) rfl ?_
    refine g_iloadN C d19_11 (v := (Int32.ofNat i)) rfl (q := 12) rfl ?_
    refine g_caload C d19_12 (i := i) A1 hi rfl rfl (q := 13) rfl ?_
    have stX : ∀ v, storeLocals #[.val (.ref a), .val (.int (Int32.ofNat i)), .val (.ref b), .val (.int (Int32.ofNat i)), .val (.int (Int32.ofNat n)), .val (.int (Int32.ofNat i)), s6] 6 (.int v) = some #[.val (.ref a), .val (.int (Int32.ofNat i)), .val (.ref b), .val (.int (Int32.ofNat i)), .val (.int (Int32.ofNat n)), .val (.int (Int32.ofNat i)), .val (.int v)] := fun v => by rcases hs6 with rfl | ⟨x, rfl⟩ <;> rfl
    refine g_istore C d19_13 (L' := #[.val (.ref a), .val (.int (Int32.ofNat i)), .val (.ref b), .val (.int (Int32.ofNat i)), .val (.int (Int32.ofNat n)), .val (.int (Int32.ofNat i)), .val (.int (cs.getD i 0))]) (stX _) (q := 15) rfl ?_
    refine g_iload C d19_15 (v := (cs.getD i 0)) rfl (q := 17) rfl ?_
    refine g_sipush C d19_17 (z := (255 : Int32)) rfl (q := 20) rfl ?_
    refine g_icmp_le C d19_20 (q' := 26) (q := 23) (by decide) (by decide) rfl (fun hle1 => ?_) (fun hgt1 => ?_)
    ·
      refine g_aloadN C d19_26 (v := (.ref b)) rfl rfl (q := 27) rfl ?_
      refine g_iloadN C d19_27 (v := (Int32.ofNat i)) rfl (q := 28) rfl ?_
      refine g_iload C d19_28 (v := (cs.getD i 0)) rfl (q := 30) rfl ?_
      refine g_i2b C d19_30 (q := 31) rfl ?_
      refine g_bastore C d19_31 (i := i) B hi rfl gb (q := 32) rfl (fun h1 W1 B1 => ?_)
      refine g_iinc C d19_32 rfl (L' := #[.val (.ref a), .val (.int ((Int32.ofNat i) + (1 : Int32))), .val (.ref b), .val (.int (Int32.ofNat i)), .val (.int (Int32.ofNat n)), .val (.int (Int32.ofNat i)), .val (.int (cs.getD i 0))]) rfl (q := 35) rfl ?_
      refine g_iinc C d19_35 rfl (L' := #[.val (.ref a), .val (.int ((Int32.ofNat i) + (1 : Int32))), .val (.ref b), .val (.int ((Int32.ofNat i) + (1 : Int32))), .val (.int (Int32.ofNat n)), .val (.int (Int32.ofNat i)), .val (.int (cs.getD i 0))]) rfl (q := 38) rfl ?_
      refine g_iinc C d19_38 rfl (L' := #[.val (.ref a), .val (.int ((Int32.ofNat i) + (1 : Int32))), .val (.ref b), .val (.int ((Int32.ofNat i) + (1 : Int32))), .val (.int (Int32.ofNat n)), .val (.int ((Int32.ofNat i) + (1 : Int32))), .val (.int (cs.getD i 0))]) rfl (q := 41) rfl ?_
      refine g_goto C d19_41 (q := 3) (by decide) (by decide) ?_
      rw [of_succ]
      exact ih (i + 1) h1 _ _ (by omega) (by omega) (K.wr W1 (Or.inl (by simp))) B1 (fun j hj => by
        by_cases e1 : j = i
        · rw [if_pos e1, e1, nar_b]
        · rw [if_neg e1]; exact hg j (by omega)) (fun j hj => by
        by_cases e1 : j = i
        · rw [e1]; exact hle1
        · exact hle j (by omega)) (Or.inr ⟨_, rfl⟩)
    ·
      refine g_iload C d19_23 (v := (Int32.ofNat i)) rfl (q := 25) rfl ?_
      refine g_ireturn C d19_25 (Nat.le_refl _) (by decide) (by decide) ⟨K, Or.inr ⟨i, hi, rfl, hgt1⟩⟩
set_option maxRecDepth 65536 in
set_option maxHeartbeats 40000000 in
theorem c_cmpL (l : Launch) (Z : State) (a0 : Array Value) (G : Gl Z a0) (h0 : Heap) (n0 : Nat) (a : Addr) (cs : List Int32) (n : Nat) (hcn : cs.length = n) (hn8 : n ≤ 8) (hch : ∀ c ∈ cs, CHR c) (A0 : Av Z h0 a .char n (fun j => .int (cs.getD j 0))) (b : Addr) (g : Nat → Value) (gb : n0 ≤ b) (nab : a ≠ b) (B : Av Z h0 b .byte n g) :
    Ctr l Z (⟨"java/lang/StringUTF16", "compress", "([CI[BII)I"⟩ : MethodName) jdk_52_method_21_code 7 (some .int) rmU0 #[(.ref a), (.int (0 : Int32)), (.ref b), (.int (0 : Int32)), (.int (Int32.ofNat n))] h0 n0 (fun v h => Keep h0 h [b] ∧ ((v = some (.int (Int32.ofNat n)) ∧ (∀ j, j < n → ¬ (255 : Int32) < cs.getD j 0) ∧ Av Z h b .byte n (fun j => .int ((cs.getD j 0).toInt8.toInt32))) ∨ ∃ i, i < n ∧ v = some (.int (Int32.ofNat i)) ∧ (255 : Int32) < cs.getD i 0)) := by
  have hw := G.1
  refine Ctr.of (n1 := n0) #[.val (.ref a), .val (.int (0 : Int32)), .val (.ref b), .val (.int (0 : Int32)), .val (.int (Int32.ofNat n)), .unset, .unset] (plainFor_of_name pn3) (fun m => by first | (simp [entryFrame, mkF, argsToLocals, Value.category, maxLocals]; done) | rfl) ?_
  intro p e s m below meth c C
  refine g_iconst C d19_0 (z := (0 : Int32)) rfl (q := 1) rfl ?_
  refine g_istore C d19_1 (L' := #[.val (.ref a), .val (.int (0 : Int32)), .val (.ref b), .val (.int (0 : Int32)), .val (.int (Int32.ofNat n)), .val (.int (0 : Int32)), .unset]) rfl (q := 3) rfl ?_
  exact loopCP l Z a0 G h0 n0 a cs n hcn hn8 hch A0 C b gb nab n 0 h0 g _ (by omega) (by omega) (Keep.refl h0 [b]) B (fun j hj => absurd hj (by omega)) (fun j hj => absurd hj (by omega)) (Or.inl rfl)
set_option maxRecDepth 65536 in
set_option maxHeartbeats 40000000 in
theorem c_cmpB (l : Launch) (Z : State) (a0 : Array Value) (G : Gl Z a0) (UG0 : UG Z) (h0 : Heap) (n0 : Nat) (X0 : Ext Z.heap h0) (Z0 : n0 ≤ h0.size) (a : Addr) (cs : List Int32) (n : Nat) (hcn : cs.length = n) (hn8 : n ≤ 8) (hch : ∀ c ∈ cs, CHR c) (A0 : Av Z h0 a .char n (fun j => .int (cs.getD j 0))) :
    Ctr l Z (⟨"java/lang/StringUTF16", "compress", "([CII)[B"⟩ : MethodName) jdk_52_method_16_code 6 (some (.array .byte)) rmU3 #[(.ref a), (.int (0 : Int32)), (.int (Int32.ofNat n))] h0 n0 (fun v h => ∃ b, v = some (.ref b) ∧ h0.size ≤ b ∧ Keep h0 h [] ∧ (((∀ j, j < n → ¬ (255 : Int32) < cs.getD j 0) ∧ Av Z h b .byte n (fun j => .int ((cs.getD j 0).toInt8.toInt32))) ∨ Av Z h b .byte (2 * n) (ub cs))) := by
  have hw := G.1
  refine Ctr.of (n1 := n0) #[.val (.ref a), .val (.int (0 : Int32)), .val (.int (Int32.ofNat n)), .unset, .unset, .unset] (plainFor_of_name pn3) (fun m => by first | (simp [entryFrame, mkF, argsToLocals, Value.category, maxLocals]; done) | rfl) ?_
  intro p e s m below meth c C
  refine g_iloadN C d18_0 (v := (Int32.ofNat n)) rfl (q := 1) rfl ?_
  refine g_newarray C d18_1 (wd8 hw) (nn32 (by omega)) (cap := 8) (by rw [Int32.toNatClampNeg_ofNat_of_lt (by omega)]; exact hn8) (by decide) (by decide) (by decide) (q := 3) rfl (fun b h1 k1 q1 E1 A1 => ?_)
  have B1 : Av Z h1 b .byte n (fun _ => .int 0) := by
    have q := Av.new A1 (nn32 (show n < 2 ^ 31 by omega))
    rw [Int32.toNatClampNeg_ofNat_of_lt (by omega)] at q
    exact q
  have gb0 : h0.size ≤ b := by rw [q1]; exact Nat.le_refl _
  have gb : n0 ≤ b := Nat.le_trans Z0 gb0
  have nab : a ≠ b := by rw [q1]; exact Nat.ne_of_lt A0.lt
  refine g_astoreN C d18_3 rfl (L' := #[.val (.ref a), .val (.int (0 : Int32)), .val (.int (Int32.ofNat n)), .val (.ref b), .unset, .unset]) rfl (q := 4) rfl ?_
  refine g_aloadN C d18_4 (v := (.ref a)) rfl rfl (q := 5) rfl ?_
  refine g_iloadN C d18_5 (v := (0 : Int32)) rfl (q := 6) rfl ?_
  refine g_aloadN C d18_6 (v := (.ref b)) rfl rfl (q := 7) rfl ?_
  refine g_iconst C d18_7 (z := (0 : Int32)) rfl (q := 8) rfl ?_
  refine g_iloadN C d18_8 (v := (Int32.ofNat n)) rfl (q := 9) rfl ?_
  refine g_callS C (W := 0) (argsL := [(.ref a), (.int (0 : Int32)), (.ref b), (.int (0 : Int32)), (.int (Int32.ofNat n))]) (rest := []) d18_9 (wd83 hw) (wd84 hw) (wd64 hw) (wd85 hw) (by decide) (Ctr.bk (c_cmpL l Z a0 G h1 n0 a cs n hcn hn8 hch (A0.ext E1) b _ gb nab B1) C (wd85 hw) (wd64 hw) (by decide) (by decide)) (by decide) (by decide) rfl (lenOf pd8 rfl) rfl rfl (q := 12) rfl (fun v2 h2 hQ2 => ?_)
  obtain ⟨K2, hQ'⟩ := hQ2
  have KK : Keep h0 h2 [] := (Ext.kp E1 []).trans K2 (fun x hx => Or.inr (by cases List.mem_singleton.mp hx; exact gb0))
  rcases hQ' with ⟨rfl, hle, B2⟩ | ⟨i, hi, rfl, hgt⟩
  ·
    refine ⟨[(.int (Int32.ofNat n))], rfl, ?_⟩
    refine g_istore C d18_12 (L' := #[.val (.ref a), .val (.int (0 : Int32)), .val (.int (Int32.ofNat n)), .val (.ref b), .val (.int (Int32.ofNat n)), .unset]) rfl (q := 14) rfl ?_
    refine g_iload C d18_14 (v := (Int32.ofNat n)) rfl (q := 16) rfl ?_
    refine g_iloadN C d18_16 (v := (Int32.ofNat n)) rfl (q := 17) rfl ?_
    refine g_icmp_eq C d18_17 (q' := 57) (q := 20) (by decide) (by decide) rfl (fun hy => ?_) (fun hn => absurd rfl hn)
    refine g_aloadN C d18_57 (v := (.ref b)) rfl rfl (q := 58) rfl ?_
    refine g_areturn C d18_58 rfl rfl (Nat.le_refl _) (by decide) (by decide) ⟨b, rfl, gb0, KK, Or.inl ⟨hle, B2⟩⟩
  ·
    refine ⟨[(.int (Int32.ofNat i))], rfl, ?_⟩
    refine g_istore C d18_12 (L' := #[.val (.ref a), .val (.int (0 : Int32)), .val (.int (Int32.ofNat n)), .val (.ref b), .val (.int (Int32.ofNat i)), .unset]) rfl (q := 14) rfl ?_
    refine g_iload C d18_14 (v := (Int32.ofNat i)) rfl (q := 16) rfl ?_
    refine g_iloadN C d18_16 (v := (Int32.ofNat n)) rfl (q := 17) rfl ?_
    refine g_icmp_eq C d18_17 (q' := 57) (q := 20) (by decide) (by decide) rfl (fun hy => absurd (of_inj (by omega) (by omega) hy) (by omega)) (fun hn => ?_)
    refine g_aloadN C d18_20 (v := (.ref a)) rfl rfl (q := 21) rfl ?_
    refine g_iloadN C d18_21 (v := (0 : Int32)) rfl (q := 22) rfl ?_
    refine g_iloadN C d18_22 (v := (Int32.ofNat n)) rfl (q := 23) rfl ?_
    refine g_callS C (W := 0) (argsL := [(.ref a), (.int (0 : Int32)), (.int (Int32.ofNat n))]) (rest := []) d18_23 (wd86 hw) (wd87 hw) (wd64 hw) (wd88 hw) (by decide) (Ctr.bk (c_toBytes l Z a0 G UG0 h2 n0 (Ext.keep X0 KK (by simp)) (Nat.le_trans Z0 KK.1) a cs n hcn hn8 hch (A0.keep KK (by simp))) C (wd88 hw) (wd64 hw) (by decide) (by decide)) (by decide) (by decide) rfl (lenOf pd9 rfl) rfl rfl (q := 26) rfl (fun v3 h3 hQ3 => ?_)
    obtain ⟨b', rfl, gb', K3, B3⟩ := hQ3
    refine ⟨[(.ref b')], rfl, ?_⟩
    refine g_astore C d18_26 rfl (L' := #[.val (.ref a), .val (.int (0 : Int32)), .val (.int (Int32.ofNat n)), .val (.ref b), .val (.int (Int32.ofNat i)), .val (.ref b')]) rfl (q := 28) rfl ?_
    refine g_aload C d18_28 (v := (.ref b')) rfl rfl (q := 30) rfl ?_
    refine g_iload C d18_30 (v := (Int32.ofNat i)) rfl (q := 32) rfl ?_
    refine g_callS C (W := 0) (argsL := [(.ref b'), (.int (Int32.ofNat i))]) (rest := []) d18_32 (wd96 hw) (wd97 hw) (wd64 hw) (wd98 hw) (by decide) (Ctr.bk (c_getChar l Z a0 G UG0 h3 n0 (Ext.keep X0 (KK.trans K3 (by simp)) (by simp)) b' i (2 * n) (cs.getD i 0) (ub cs) B3 (by omega) (hch _ (by simp [List.getD, hcn, hi])) (ub_lo cs i) (ub_hi cs i)) C (wd98 hw) (wd64 hw) (by decide) (by decide)) (by decide) (by decide) rfl (lenOf pd4 rfl) rfl rfl (q := 35) rfl (fun v4 h4 hQ4 => ?_)
    obtain ⟨rfl, rfl⟩ := hQ4
    refine ⟨[(.int (cs.getD i 0))], rfl, ?_⟩
    refine g_sipush C d18_35 (z := (255 : Int32)) rfl (q := 38) rfl ?_
    refine g_icmp_gt C d18_38 (q' := 54) (q := 41) (by decide) (by decide) rfl (fun hy => ?_) (fun hn => absurd hgt hn)
    refine g_aload C d18_54 (v := (.ref b')) rfl rfl (q := 56) rfl ?_
    refine g_areturn C d18_56 rfl rfl (Nat.le_refl _) (by decide) (by decide) ⟨b', rfl, Nat.le_trans KK.1 gb', KK.trans K3 (by simp), Or.inr B3⟩
set_option maxRecDepth 65536 in
set_option maxHeartbeats 40000000 in
theorem c_cfa0 (l : Launch) (Z : State) (a0 : Array Value) (G : Gl Z a0) (n : Nat) (hn8 : n ≤ 8) (b : Addr) (g : Nat → Value) (h0 : Heap) (n0 : Nat) (B : Av Z h0 b .byte n g) :
    Ctr l Z (⟨"java/lang/StringUTF16", "coderFromArrayLen", "([BI)B"⟩ : MethodName) jdk_52_method_15_code 2 (some .byte) rmU0 #[(.ref b), (.int (Int32.ofNat n))] h0 n0 (fun v h => h0 = h ∧ v = some (.int 0)) := by
  have hw := G.1
  refine Ctr.of (n1 := n0) #[.val (.ref b), .val (.int (Int32.ofNat n))] (plainFor_of_name pn3) (fun m => by first | (simp [entryFrame, mkF, argsToLocals, Value.category, maxLocals]; done) | rfl) ?_
  intro p e s m below meth c C
  refine g_iloadN C d24_0 (v := (Int32.ofNat n)) rfl (q := 1) rfl ?_
  refine g_aloadN C d24_1 (v := (.ref b)) rfl rfl (q := 2) rfl ?_
  refine g_alen C d24_2 B (z := (Int32.ofNat n)) rfl (q := 3) rfl ?_
  refine g_isub C d24_3 (q := 4) rfl ?_
  refine g_bipush C d24_4 (z := (31 : Int32)) rfl (q := 6) rfl ?_
  refine g_iushr C d24_6 (q := 7) rfl ?_
  refine g_i2b C d24_7 (q := 8) rfl ?_
  rw [show (((XT.ushr ((Int32.ofNat n) - (Int32.ofNat n)) (31 : Int32)).toInt8.toInt32)) = 0 from ushr_len0 ⟨n, by omega⟩]
  refine g_nreturn C d24_8 (by simp) (z := 0) rfl (Nat.le_refl _) (by decide) (by decide) ⟨rfl, rfl⟩
set_option maxRecDepth 65536 in
set_option maxHeartbeats 40000000 in
theorem c_cfa1 (l : Launch) (Z : State) (a0 : Array Value) (G : Gl Z a0) (n : Nat) (hn8 : n ≤ 8) (hn0 : ¬ n = 0) (b : Addr) (g : Nat → Value) (h0 : Heap) (n0 : Nat) (B : Av Z h0 b .byte (2 * n) g) :
    Ctr l Z (⟨"java/lang/StringUTF16", "coderFromArrayLen", "([BI)B"⟩ : MethodName) jdk_52_method_15_code 2 (some .byte) rmU0 #[(.ref b), (.int (Int32.ofNat n))] h0 n0 (fun v h => h0 = h ∧ v = some (.int 1)) := by
  have hw := G.1
  refine Ctr.of (n1 := n0) #[.val (.ref b), .val (.int (Int32.ofNat n))] (plainFor_of_name pn3) (fun m => by first | (simp [entryFrame, mkF, argsToLocals, Value.category, maxLocals]; done) | rfl) ?_
  intro p e s m below meth c C
  refine g_iloadN C d24_0 (v := (Int32.ofNat n)) rfl (q := 1) rfl ?_
  refine g_aloadN C d24_1 (v := (.ref b)) rfl rfl (q := 2) rfl ?_
  refine g_alen C d24_2 B (z := (Int32.ofNat (2 * n))) rfl (q := 3) rfl ?_
  refine g_isub C d24_3 (q := 4) rfl ?_
  refine g_bipush C d24_4 (z := (31 : Int32)) rfl (q := 6) rfl ?_
  refine g_iushr C d24_6 (q := 7) rfl ?_
  refine g_i2b C d24_7 (q := 8) rfl ?_
  rw [show (((XT.ushr ((Int32.ofNat n) - (Int32.ofNat (2 * n))) (31 : Int32)).toInt8.toInt32)) = 1 from ushr_len ⟨n, by omega⟩ hn0]
  refine g_nreturn C d24_8 (by simp) (z := 1) rfl (Nat.le_refl _) (by decide) (by decide) ⟨rfl, rfl⟩
set_option maxRecDepth 65536 in
set_option maxHeartbeats 40000000 in
theorem c_new4 (l : Launch) (Z : State) (a0 : Array Value) (G : Gl Z a0) (UG0 : UG Z) (h0 : Heap) (n0 : Nat) (X0 : Ext Z.heap h0) (Z0 : n0 ≤ h0.size) (a : Addr) (cs : List Int32) (n : Nat) (hcn : cs.length = n) (hn8 : n ≤ 8) (hch : ∀ c ∈ cs, CHR c) (A0 : Av Z h0 a .char n (fun j => .int (cs.getD j 0))) (cz : Int32) (S0 : Sta Z Z.heap "java/lang/String" "COMPACT_STRINGS" "Z" (.int cz)) (hcz : ¬ cz = 0) (hn0 : ¬ n = 0) (t : Addr) (gt : n0 ≤ t) (E0 : Exa Z h0 t "java/lang/String") (o1 o2 : Value) (V0 : Fld Z h0 t "java/lang/String" "value" "[B" o1) (C0 : Fld Z h0 t "java/lang/String" "coder" "B" o2) :
    Ctr l Z (⟨"java/lang/String", "<init>", "([CIILjava/lang/Void;)V"⟩ : MethodName) jdk_42_method_149_code 6 none rmU4 #[(.ref t), (.ref a), (.int (0 : Int32)), (.int (Int32.ofNat n)), .null] h0 n0 (fun v h => v = none ∧ Keep h0 h [t] ∧ SG Z h t cs) := by
  have hw := G.1
  refine Ctr.of (n1 := n0) #[.val (.ref t), .val (.ref a), .val (.int (0 : Int32)), .val (.int (Int32.ofNat n)), .val .null, .unset] (plainFor_of_name pn0) (fun m => by first | (simp [entryFrame, mkF, argsToLocals, Value.category, maxLocals]; done) | rfl) ?_
  intro p e s m below meth c C
  refine g_aloadN C d17_0 (v := (.ref t)) rfl rfl (q := 1) rfl ?_
  refine g_initO C d17_1 (wd59 hw) (wd60 hw) (wd61 hw) rfl (by decide) (W := 0) rfl (by decide) (q := 4) rfl ?_
  refine g_iloadN C d17_4 (v := (Int32.ofNat n)) rfl (q := 5) rfl ?_
  refine g_if_ne C d17_5 (q' := 27) (q := 8) (by decide) (by decide) rfl (fun hy => ?_) (fun hn_ => absurd (of_inj (n := 0) (by omega) (by decide) hn_) hn0)
  refine g_gets C d17_27 (host := "") (Or.inl (wd34 hw)) Via.refl (S0.ext X0) (q := 30) rfl ?_
  refine g_if_eq C d17_30 (q' := 58) (q := 33) (by decide) (by decide) rfl (fun hy => absurd hy hcz) (fun hn => ?_)
  refine g_aloadN C d17_33 (v := (.ref a)) rfl rfl (q := 34) rfl ?_
  refine g_iloadN C d17_34 (v := (0 : Int32)) rfl (q := 35) rfl ?_
  refine g_iloadN C d17_35 (v := (Int32.ofNat n)) rfl (q := 36) rfl ?_
  refine g_callS C (W := 0) (argsL := [(.ref a), (.int (0 : Int32)), (.int (Int32.ofNat n))]) (rest := []) d17_36 (wd80 hw) (wd81 hw) (wd64 hw) (wd82 hw) (by decide) (Ctr.bk (c_cmpB l Z a0 G UG0 h0 n0 X0 Z0 a cs n hcn hn8 hch A0) C (wd82 hw) (wd64 hw) (by decide) (by decide)) (by decide) (by decide) rfl (lenOf pd9 rfl) rfl rfl (q := 39) rfl (fun v1 h1 hQ1 => ?_)
  obtain ⟨b, rfl, gb, K1, hB⟩ := hQ1
  refine ⟨[(.ref b)], rfl, ?_⟩
  have E1 := E0.keep K1
  have V1 := V0.keep K1 (by simp)
  have C1_ := C0.keep K1 (by simp)
  refine g_astore C d17_39 rfl (L' := #[.val (.ref t), .val (.ref a), .val (.int (0 : Int32)), .val (.int (Int32.ofNat n)), .val .null, .val (.ref b)]) rfl (q := 41) rfl ?_
  refine g_aloadN C d17_41 (v := (.ref t)) rfl rfl (q := 42) rfl ?_
  refine g_aload C d17_42 (v := (.ref b)) rfl rfl (q := 44) rfl ?_
  refine g_iloadN C d17_44 (v := (Int32.ofNat n)) rfl (q := 45) rfl ?_
  rcases hB with ⟨hle, B1⟩ | B1
  ·
    refine g_callS C (W := 1) (argsL := [(.ref b), (.int (Int32.ofNat n))]) (rest := [(.ref t)]) d17_45 (wd99 hw) (wd100 hw) (wd64 hw) (wd101 hw) (by decide) (Ctr.bk (c_cfa0 l Z a0 G n hn8 b _ h1 n0 B1) C (wd101 hw) (wd64 hw) (by decide) (by decide)) (by decide) (by decide) rfl (lenOf pd10 rfl) rfl rfl (q := 48) rfl (fun v2 h2 hQ2 => ?_)
    obtain ⟨rfl, rfl⟩ := hQ2
    refine ⟨[(.int (0 : Int32)), (.ref t)], rfl, ?_⟩
    refine g_putf C d17_48 (host := "") (Or.inl (wd35 hw)) Via.refl C1_ E1 (Or.inr ⟨(wd10 hw), rfl, rfl⟩) (wd7 hw) (ty := .byte) (by decide) rfl rfl gt (q := 51) rfl (fun h2 W2 => ?_)
    refine g_aloadN C d17_51 (v := (.ref t)) rfl rfl (q := 52) rfl ?_
    refine g_aload C d17_52 (v := (.ref b)) rfl rfl (q := 54) rfl ?_
    have E2 := E1.wr W2
    have V2 := V1.other W2 (Or.inr (slot_ne (Or.inr (wd9 hw)) (Or.inr (wd10 hw)) (by decide) (t := .array .byte) (t' := .byte) (by decide) (by decide)))
    have C2 := C1_.same W2
    have nbt : b ≠ t := B1.ne_exa E1 (wd7 hw)
    have B2 := B1.other W2 nbt
    refine g_putf C d17_54 (host := "") (Or.inl (wd28 hw)) Via.refl V2 E2 (Or.inr ⟨(wd9 hw), rfl, rfl⟩) (wd7 hw) (ty := (.array .byte)) (by decide) rfl rfl gt (q := 57) rfl (fun h3 W3 => ?_)
    have E3 := E2.wr W3
    have V3 := V2.same W3
    have C3 := C2.other W3 (Or.inr (slot_ne (Or.inr (wd10 hw)) (Or.inr (wd9 hw)) (by decide) (t := .byte) (t' := .array .byte) (by decide) (by decide)))
    have B3 := B2.other W3 nbt
    refine g_return C d17_57 (Nat.le_refl _) (by decide) (by decide) ⟨rfl, (((Keep.refl h0 [t]).trans K1 (by simp)).wr W2 (Or.inl (by simp))).wr W3 (Or.inl (by simp)), Or.inl ⟨b, E3, C3, V3, by subst hcn; exact B3, fun c hc => ⟨(hch c hc).1, by
        obtain ⟨j, hj, rfl⟩ := List.getElem_of_mem hc
        have q := hle j (by omega)
        simpa [List.getD, hj] using q⟩⟩⟩
  ·
    refine g_callS C (W := 1) (argsL := [(.ref b), (.int (Int32.ofNat n))]) (rest := [(.ref t)]) d17_45 (wd99 hw) (wd100 hw) (wd64 hw) (wd101 hw) (by decide) (Ctr.bk (c_cfa1 l Z a0 G n hn8 hn0 b _ h1 n0 B1) C (wd101 hw) (wd64 hw) (by decide) (by decide)) (by decide) (by decide) rfl (lenOf pd10 rfl) rfl rfl (q := 48) rfl (fun v2 h2 hQ2 => ?_)
    obtain ⟨rfl, rfl⟩ := hQ2
    refine ⟨[(.int (1 : Int32)), (.ref t)], rfl, ?_⟩
    refine g_putf C d17_48 (host := "") (Or.inl (wd35 hw)) Via.refl C1_ E1 (Or.inr ⟨(wd10 hw), rfl, rfl⟩) (wd7 hw) (ty := .byte) (by decide) rfl rfl gt (q := 51) rfl (fun h2 W2 => ?_)
    refine g_aloadN C d17_51 (v := (.ref t)) rfl rfl (q := 52) rfl ?_
    refine g_aload C d17_52 (v := (.ref b)) rfl rfl (q := 54) rfl ?_
    have E2 := E1.wr W2
    have V2 := V1.other W2 (Or.inr (slot_ne (Or.inr (wd9 hw)) (Or.inr (wd10 hw)) (by decide) (t := .array .byte) (t' := .byte) (by decide) (by decide)))
    have C2 := C1_.same W2
    have nbt : b ≠ t := B1.ne_exa E1 (wd7 hw)
    have B2 := B1.other W2 nbt
    refine g_putf C d17_54 (host := "") (Or.inl (wd28 hw)) Via.refl V2 E2 (Or.inr ⟨(wd9 hw), rfl, rfl⟩) (wd7 hw) (ty := (.array .byte)) (by decide) rfl rfl gt (q := 57) rfl (fun h3 W3 => ?_)
    have E3 := E2.wr W3
    have V3 := V2.same W3
    have C3 := C2.other W3 (Or.inr (slot_ne (Or.inr (wd10 hw)) (Or.inr (wd9 hw)) (by decide) (t := .byte) (t' := .array .byte) (by decide) (by decide)))
    have B3 := B2.other W3 nbt
    refine g_return C d17_57 (Nat.le_refl _) (by decide) (by decide) ⟨rfl, (((Keep.refl h0 [t]).trans K1 (by simp)).wr W2 (Or.inl (by simp))).wr W3 (Or.inl (by simp)), Or.inr ⟨b, E3, C3, V3, by subst hcn; exact B3, hch⟩⟩
set_option maxRecDepth 65536 in
set_option maxHeartbeats 40000000 in
theorem c_new1 (l : Launch) (Z : State) (a0 : Array Value) (G : Gl Z a0) (UG0 : UG Z) (h0 : Heap) (n0 : Nat) (X0 : Ext Z.heap h0) (Z0 : n0 ≤ h0.size) (a : Addr) (cs : List Int32) (n : Nat) (hcn : cs.length = n) (hn8 : n ≤ 8) (hch : ∀ c ∈ cs, CHR c) (A0 : Av Z h0 a .char n (fun j => .int (cs.getD j 0))) (cz : Int32) (S0 : Sta Z Z.heap "java/lang/String" "COMPACT_STRINGS" "Z" (.int cz)) (hcz : ¬ cz = 0) (hn0 : ¬ n = 0) (t : Addr) (gt : n0 ≤ t) (E0 : Exa Z h0 t "java/lang/String") (o1 o2 : Value) (V0 : Fld Z h0 t "java/lang/String" "value" "[B" o1) (C0 : Fld Z h0 t "java/lang/String" "coder" "B" o2) :
    Ctr l Z (⟨"java/lang/String", "<init>", "([C)V"⟩ : MethodName) jdk_42_method_3_code 2 none rmU5 #[(.ref t), (.ref a)] h0 n0 (fun v h => v = none ∧ Keep h0 h [t] ∧ SG Z h t cs) := by
  have hw := G.1
  refine Ctr.of (n1 := n0) #[.val (.ref t), .val (.ref a)] (plainFor_of_name pn0) (fun m => by first | (simp [entryFrame, mkF, argsToLocals, Value.category, maxLocals]; done) | rfl) ?_
  intro p e s m below meth c C
  refine g_aloadN C d16_0 (v := (.ref t)) rfl rfl (q := 1) rfl ?_
  refine g_aloadN C d16_1 (v := (.ref a)) rfl rfl (q := 2) rfl ?_
  refine g_iconst C d16_2 (z := (0 : Int32)) rfl (q := 3) rfl ?_
  refine g_aloadN C d16_3 (v := (.ref a)) rfl rfl (q := 4) rfl ?_
  refine g_alen C d16_4 A0 (z := (Int32.ofNat n)) rfl (q := 5) rfl ?_
  refine g_aconst_null C d16_5 (q := 6) rfl ?_
  refine g_callI C (W := 0) (argsL := [(.ref a), (.int (0 : Int32)), (.int (Int32.ofNat n)), .null]) (rest := []) (a := t) d16_6 rfl (wd77 hw) (wd78 hw) (wd79 hw) (by decide) (Ctr.bk (c_new4 l Z a0 G UG0 h0 n0 X0 Z0 a cs n hcn hn8 hch A0 cz S0 hcz hn0 t gt E0 o1 o2 V0 C0) C (wd79 hw) (wd6 hw) (by decide) (by decide)) (by decide) (by decide) rfl (lenOf pd11 rfl) rfl rfl (q := 9) rfl (fun v1 h1 hQ1 => ?_)
  obtain ⟨rfl, K1, S1⟩ := hQ1
  refine ⟨[], rfl, ?_⟩
  refine g_return C d16_9 (Nat.le_refl _) (by decide) (by decide) ⟨rfl, K1, S1⟩
set_option maxRecDepth 65536 in
set_option maxHeartbeats 40000000 in
theorem c_coderU (l : Launch) (Z : State) (a0 : Array Value) (G : Gl Z a0) (cz : Int32) (fm : Value) (LG0 : LG Z cz fm) (h0 : Heap) (n0 : Nat) (X0 : Ext Z.heap h0) (a : Addr) (F : Fld Z h0 a "java/lang/String" "coder" "B" (.int 1)) :
    Ctr l Z (⟨"java/lang/String", "coder", "()B"⟩ : MethodName) jdk_42_method_152_code 1 (some .byte) rmL0 #[(.ref a)] h0 n0 (fun v h => h0 = h ∧ v = some (.int 1)) := by
  have hw := G.1
  obtain ⟨S0, hcz, SF, hfm⟩ := LG0
  refine Ctr.of (n1 := n0) #[.val (.ref a)] (plainFor_of_name pn0) (fun m => by first | (simp [entryFrame, mkF, argsToLocals, Value.category, maxLocals]; done) | rfl) ?_
  intro p e s m below meth c C
  refine g_gets C d6_0 (host := "") (Or.inl (wd34 hw)) Via.refl (S0.ext X0) (q := 3) rfl ?_
  refine g_if_eq C d6_3 (q' := 13) (q := 6) (by decide) (by decide) rfl (fun hy => absurd hy hcz) (fun hn => ?_)
  refine g_aloadN C d6_6 (v := (.ref a)) rfl rfl (q := 7) rfl ?_
  refine g_getf C d6_7 (host := "") (Or.inl (wd35 hw)) Via.refl F (q := 10) rfl ?_
  refine g_goto C d6_10 (q := 14) (by decide) (by decide) ?_
  refine g_nreturn C d6_14 (by simp) (z := 1) rfl (Nat.le_refl _) (by decide) (by decide) ⟨rfl, rfl⟩
set_option maxRecDepth 65536 in
set_option maxHeartbeats 40000000 in
theorem c_lenU (l : Launch) (Z : State) (a0 : Array Value) (G : Gl Z a0) (cz : Int32) (fm : Value) (LG0 : LG Z cz fm) (h0 : Heap) (n0 : Nat) (X0 : Ext Z.heap h0) (a : Addr) (cs : List Int32) (S : SU Z h0 a cs) :
    Ctr l Z (⟨"java/lang/String", "length", "()I"⟩ : MethodName) jdk_42_method_54_code 1 (some .int) rmL1 #[(.ref a)] h0 n0 (fun v h => h0 = h ∧ v = some (.int (Int32.ofNat cs.length))) := by
  have hw := G.1
  have hlen := S.len
  obtain ⟨b, E, F1, F2, B, hp⟩ := S
  refine Ctr.of (n1 := n0) #[.val (.ref a)] (plainFor_of_name pn0) (fun m => by first | (simp [entryFrame, mkF, argsToLocals, Value.category, maxLocals]; done) | rfl) ?_
  intro p e s m below meth c C
  refine g_aloadN C d5_0 (v := (.ref a)) rfl rfl (q := 1) rfl ?_
  refine g_getf C d5_1 (host := "") (Or.inl (wd28 hw)) Via.refl F2 (q := 4) rfl ?_
  refine g_alen C d5_4 B (z := (Int32.ofNat (2 * cs.length))) rfl (q := 5) rfl ?_
  refine g_aloadN C d5_5 (v := (.ref a)) rfl rfl (q := 6) rfl ?_
  refine g_callV C (W := 1) (argsL := []) (rest := [(.int (Int32.ofNat (2 * cs.length)))]) (a := a) d5_6 (wd29 hw) (wd30 hw) (wd32 hw) (wd31 hw) (by decide) (nf_of C (wd32 hw)) E (Ctr.bk (c_coderU l Z a0 G cz fm LG0 h0 n0 X0 a F1) C (wd33 hw) (wd6 hw) (by decide) (by decide)) (by decide) (by decide) rfl (lenOf pd0 rfl) rfl rfl (q := 9) rfl (fun v1 h1 hQ1 => ?_)
  obtain ⟨rfl, rfl⟩ := hQ1
  refine ⟨[(.int (1 : Int32)), (.int (Int32.ofNat (2 * cs.length)))], rfl, ?_⟩
  refine g_ishr C d5_9 (q := 10) rfl ?_
  rw [shr1 hlen]
  refine g_ireturn C d5_10 (Nat.le_refl _) (by decide) (by decide) ⟨rfl, rfl⟩
theorem c_lenG (l : Launch) (Z : State) (a0 : Array Value) (G : Gl Z a0) (cz : Int32) (fm : Value) (LG0 : LG Z cz fm) (h0 : Heap) (n0 : Nat) (X0 : Ext Z.heap h0) (a : Addr) (cs : List Int32) (S : SG Z h0 a cs) :
    Ctr l Z (⟨"java/lang/String", "length", "()I"⟩ : MethodName) jdk_42_method_54_code 1 (some .int) rmL1 #[(.ref a)] h0 n0 (fun v h => h0 = h ∧ v = some (.int (Int32.ofNat cs.length))) := S.elim (fun S => c_len l Z a0 G cz fm LG0 h0 n0 X0 a cs S) (fun S => c_lenU l Z a0 G cz fm LG0 h0 n0 X0 a cs S)
set_option maxRecDepth 65536 in
set_option maxHeartbeats 40000000 in
theorem c_isl1U (l : Launch) (Z : State) (a0 : Array Value) (G : Gl Z a0) (cz : Int32) (fm : Value) (LG0 : LG Z cz fm) (h0 : Heap) (n0 : Nat) (X0 : Ext Z.heap h0) (a : Addr) (F : Fld Z h0 a "java/lang/String" "coder" "B" (.int 1)) :
    Ctr l Z (⟨"java/lang/String", "isLatin1", "()Z"⟩ : MethodName) jdk_42_method_154_code 1 (some .boolean) rmL0 #[(.ref a)] h0 n0 (fun v h => h0 = h ∧ v = some (.int 0)) := by
  have hw := G.1
  obtain ⟨S0, hcz, SF, hfm⟩ := LG0
  refine Ctr.of (n1 := n0) #[.val (.ref a)] (plainFor_of_name pn0) (fun m => by first | (simp [entryFrame, mkF, argsToLocals, Value.category, maxLocals]; done) | rfl) ?_
  intro p e s m below meth c C
  refine g_gets C d26_0 (host := "") (Or.inl (wd34 hw)) Via.refl (S0.ext X0) (q := 3) rfl ?_
  refine g_if_eq C d26_3 (q' := 17) (q := 6) (by decide) (by decide) rfl (fun hy => absurd hy hcz) (fun hn => ?_)
  refine g_aloadN C d26_6 (v := (.ref a)) rfl rfl (q := 7) rfl ?_
  refine g_getf C d26_7 (host := "") (Or.inl (wd35 hw)) Via.refl F (q := 10) rfl ?_
  refine g_if_ne C d26_10 (q' := 17) (q := 13) (by decide) (by decide) rfl (fun hy => ?_) (fun hn => absurd hn (by decide))
  refine g_iconst C d26_17 (z := (0 : Int32)) rfl (q := 18) rfl ?_
  refine g_nreturn C d26_18 (by simp) (z := 0) rfl (Nat.le_refl _) (by decide) (by decide) ⟨rfl, rfl⟩
set_option maxRecDepth 65536 in
set_option maxHeartbeats 40000000 in
theorem c_u16len (l : Launch) (Z : State) (a0 : Array Value) (G : Gl Z a0) (cz : Int32) (fm : Value) (LG0 : LG Z cz fm) (h0 : Heap) (n0 : Nat) (X0 : Ext Z.heap h0) (b : Addr) (n : Nat) (g : Nat → Value) (B : Av Z h0 b .byte (2 * n) g) (hnn : 2 * n < 2 ^ 31) :
    Ctr l Z (⟨"java/lang/StringUTF16", "length", "([B)I"⟩ : MethodName) jdk_52_method_6_code 1 (some .int) rmL0 #[(.ref b)] h0 n0 (fun v h => h0 = h ∧ v = some (.int (Int32.ofNat n))) := by
  have hw := G.1
  refine Ctr.of (n1 := n0) #[.val (.ref b)] (plainFor_of_name pn3) (fun m => by first | (simp [entryFrame, mkF, argsToLocals, Value.category, maxLocals]; done) | rfl) ?_
  intro p e s m below meth c C
  refine g_aloadN C d29_0 (v := (.ref b)) rfl rfl (q := 1) rfl ?_
  refine g_alen C d29_1 B (z := (Int32.ofNat (2 * n))) rfl (q := 2) rfl ?_
  refine g_iconst C d29_2 (z := (1 : Int32)) rfl (q := 3) rfl ?_
  refine g_ishr C d29_3 (q := 4) rfl ?_
  rw [shr1 hnn]
  refine g_ireturn C d29_4 (Nat.le_refl _) (by decide) (by decide) ⟨rfl, rfl⟩
set_option maxRecDepth 65536 in
set_option maxHeartbeats 40000000 in
theorem c_u16chk (l : Launch) (Z : State) (a0 : Array Value) (G : Gl Z a0) (cz : Int32) (fm : Value) (LG0 : LG Z cz fm) (h0 : Heap) (n0 : Nat) (X0 : Ext Z.heap h0) (b : Addr) (n : Nat) (g : Nat → Value) (B : Av Z h0 b .byte (2 * n) g) (hnn : 2 * n < 2 ^ 31) (i : Nat) (hi : i < n) :
    Ctr l Z (⟨"java/lang/StringUTF16", "checkIndex", "(I[B)V"⟩ : MethodName) jdk_52_method_91_code 2 none rmL2 #[(.int (Int32.ofNat i)), (.ref b)] h0 n0 (fun v h => h0 = h ∧ v = none) := by
  have hw := G.1
  refine Ctr.of (n1 := n0) #[.val (.int (Int32.ofNat i)), .val (.ref b)] (plainFor_of_name pn3) (fun m => by first | (simp [entryFrame, mkF, argsToLocals, Value.category, maxLocals]; done) | rfl) ?_
  intro p e s m below meth c C
  refine g_iloadN C d28_0 (v := (Int32.ofNat i)) rfl (q := 1) rfl ?_
  refine g_aloadN C d28_1 (v := (.ref b)) rfl rfl (q := 2) rfl ?_
  refine g_callS C (W := 1) (argsL := [(.ref b)]) (rest := [(.int (Int32.ofNat i))]) d28_2 (wd118 hw) (wd119 hw) (wd64 hw) (wd120 hw) (by decide) (Ctr.bk (c_u16len l Z a0 G cz fm LG0 h0 n0 X0 b n g B hnn) C (wd120 hw) (wd64 hw) (by decide) (by decide)) (by decide) (by decide) rfl (lenOf pd12 rfl) rfl rfl (q := 5) rfl (fun v1 h1 hQ1 => ?_)
  obtain ⟨rfl, rfl⟩ := hQ1
  refine ⟨[(.int (Int32.ofNat n)), (.int (Int32.ofNat i))], rfl, ?_⟩
  refine g_callS C (W := 0) (argsL := [(.int (Int32.ofNat i)), (.int (Int32.ofNat n))]) (rest := []) d28_5 (wd121 hw) (wd122 hw) (wd6 hw) (wd123 hw) (by decide) (Ctr.bk (c_schk l Z a0 G cz fm LG0 h0 n0 X0 i n hi (by omega)) C (wd123 hw) (wd6 hw) (by decide) (by decide)) (by decide) (by decide) rfl (lenOf pd2 rfl) rfl rfl (q := 8) rfl (fun v1 h1 hQ1 => ?_)
  obtain ⟨rfl, rfl⟩ := hQ1
  refine ⟨[], rfl, ?_⟩
  refine g_return C d28_8 (Nat.le_refl _) (by decide) (by decide) ⟨rfl, rfl⟩
set_option maxRecDepth 65536 in
set_option maxHeartbeats 40000000 in
theorem c_u16char (l : Launch) (Z : State) (a0 : Array Value) (G : Gl Z a0) (cz : Int32) (fm : Value) (LG0 : LG Z cz fm) (h0 : Heap) (n0 : Nat) (X0 : Ext Z.heap h0) (UG0 : UG Z) (b : Addr) (cs : List Int32) (i : Nat) (B : Av Z h0 b .byte (2 * cs.length) (ub cs)) (hnn : 2 * cs.length < 2 ^ 31) (hi : i < cs.length) (hb : CHR (cs.getD i 0)) :
    Ctr l Z (⟨"java/lang/StringUTF16", "charAt", "([BI)C"⟩ : MethodName) jdk_52_method_83_code 2 (some .char) rmL3 #[(.ref b), (.int (Int32.ofNat i))] h0 n0 (fun v h => h0 = h ∧ v = some (.int (cs.getD i 0))) := by
  have hw := G.1
  refine Ctr.of (n1 := n0) #[.val (.ref b), .val (.int (Int32.ofNat i))] (plainFor_of_name pn3) (fun m => by first | (simp [entryFrame, mkF, argsToLocals, Value.category, maxLocals]; done) | rfl) ?_
  intro p e s m below meth c C
  refine g_iloadN C d27_0 (v := (Int32.ofNat i)) rfl (q := 1) rfl ?_
  refine g_aloadN C d27_1 (v := (.ref b)) rfl rfl (q := 2) rfl ?_
  refine g_callS C (W := 0) (argsL := [(.int (Int32.ofNat i)), (.ref b)]) (rest := []) d27_2 (wd115 hw) (wd116 hw) (wd64 hw) (wd117 hw) (by decide) (Ctr.bk (c_u16chk l Z a0 G cz fm LG0 h0 n0 X0 b cs.length _ B hnn i hi) C (wd117 hw) (wd64 hw) (by decide) (by decide)) (by decide) (by decide) rfl (lenOf pd13 rfl) rfl rfl (q := 5) rfl (fun v1 h1 hQ1 => ?_)
  obtain ⟨rfl, rfl⟩ := hQ1
  refine ⟨[], rfl, ?_⟩
  refine g_aloadN C d27_5 (v := (.ref b)) rfl rfl (q := 6) rfl ?_
  refine g_iloadN C d27_6 (v := (Int32.ofNat i)) rfl (q := 7) rfl ?_
  refine g_callS C (W := 0) (argsL := [(.ref b), (.int (Int32.ofNat i))]) (rest := []) d27_7 (wd96 hw) (wd97 hw) (wd64 hw) (wd98 hw) (by decide) (Ctr.bk (c_getChar l Z a0 G UG0 h0 n0 X0 b i (2 * cs.length) (cs.getD i 0) (ub cs) B (by omega) hb (ub_lo cs i) (ub_hi cs i)) C (wd98 hw) (wd64 hw) (by decide) (by decide)) (by decide) (by decide) rfl (lenOf pd4 rfl) rfl rfl (q := 10) rfl (fun v1 h1 hQ1 => ?_)
  obtain ⟨rfl, rfl⟩ := hQ1
  refine ⟨[(.int (cs.getD i 0))], rfl, ?_⟩
  refine g_nreturn C d27_10 (by simp) (z := cs.getD i 0) (chr_nar hb) (Nat.le_refl _) (by decide) (by decide) ⟨rfl, rfl⟩
abbrev rmL4 : Room := { frames := 4, cells := 0, slots := 0, locals := 64 }
set_option maxRecDepth 65536 in
set_option maxHeartbeats 40000000 in
theorem c_charAtU (l : Launch) (Z : State) (a0 : Array Value) (G : Gl Z a0) (cz : Int32) (fm : Value) (LG0 : LG Z cz fm) (h0 : Heap) (n0 : Nat) (X0 : Ext Z.heap h0) (UG0 : UG Z) (a : Addr) (cs : List Int32) (S : SU Z h0 a cs) (i : Nat) (hi : i < cs.length) :
    Ctr l Z (⟨"java/lang/String", "charAt", "(I)C"⟩ : MethodName) jdk_42_method_56_code 2 (some .char) rmL4 #[(.ref a), (.int (Int32.ofNat i))] h0 n0 (fun v h => h0 = h ∧ v = some (.int (cs.getD i 0))) := by
  have hw := G.1
  have hnn := S.len
  obtain ⟨b, E, F1, F2, B, hp⟩ := S
  have hb : CHR (cs.getD i 0) := hp _ (by simp [List.getD, hi])
  refine Ctr.of (n1 := n0) #[.val (.ref a), .val (.int (Int32.ofNat i))] (plainFor_of_name pn0) (fun m => by first | (simp [entryFrame, mkF, argsToLocals, Value.category, maxLocals]; done) | rfl) ?_
  intro p e s m below meth c C
  refine g_aloadN C d25_0 (v := (.ref a)) rfl rfl (q := 1) rfl ?_
  refine g_callV C (W := 0) (argsL := []) (rest := []) (a := a) d25_1 (wd107 hw) (wd108 hw) (wd110 hw) (wd109 hw) (by decide) (nf_of C (wd110 hw)) E (Ctr.bk (c_isl1U l Z a0 G cz fm LG0 h0 n0 X0 a F1) C (wd111 hw) (wd6 hw) (by decide) (by decide)) (by decide) (by decide) rfl (lenOf pd3 rfl) rfl rfl (q := 4) rfl (fun v1 h1 hQ1 => ?_)
  obtain ⟨rfl, rfl⟩ := hQ1
  refine ⟨[(.int (0 : Int32))], rfl, ?_⟩
  refine g_if_eq C d25_4 (q' := 16) (q := 7) (by decide) (by decide) rfl (fun hy => ?_) (fun hn => absurd rfl hn)
  refine g_aloadN C d25_16 (v := (.ref a)) rfl rfl (q := 17) rfl ?_
  refine g_getf C d25_17 (host := "") (Or.inl (wd28 hw)) Via.refl F2 (q := 20) rfl ?_
  refine g_iloadN C d25_20 (v := (Int32.ofNat i)) rfl (q := 21) rfl ?_
  refine g_callS C (W := 0) (argsL := [(.ref b), (.int (Int32.ofNat i))]) (rest := []) d25_21 (wd112 hw) (wd113 hw) (wd64 hw) (wd114 hw) (by decide) (Ctr.bk (c_u16char l Z a0 G cz fm LG0 h0 n0 X0 UG0 b cs i B hnn hi hb) C (wd114 hw) (wd64 hw) (by decide) (by decide)) (by decide) (by decide) rfl (lenOf pd4 rfl) rfl rfl (q := 24) rfl (fun v2 h2 hQ2 => ?_)
  obtain ⟨rfl, rfl⟩ := hQ2
  refine ⟨[(.int (cs.getD i 0))], rfl, ?_⟩
  refine g_nreturn C d25_24 (by simp) (z := cs.getD i 0) (chr_nar hb) (Nat.le_refl _) (by decide) (by decide) ⟨rfl, rfl⟩
set_option maxRecDepth 65536 in
set_option maxHeartbeats 40000000 in
theorem c_charAtL (l : Launch) (Z : State) (a0 : Array Value) (G : Gl Z a0) (cz : Int32) (fm : Value) (LG0 : LG Z cz fm) (h0 : Heap) (n0 : Nat) (X0 : Ext Z.heap h0) (a : Addr) (cs : List Int32) (S : SL Z h0 a cs) (i : Nat) (hi : i < cs.length) :
    Ctr l Z (⟨"java/lang/String", "charAt", "(I)C"⟩ : MethodName) jdk_42_method_56_code 2 (some .char) rmL4 #[(.ref a), (.int (Int32.ofNat i))] h0 n0 (fun v h => h0 = h ∧ v = some (.int (cs.getD i 0))) := by
  have hw := G.1
  have hnn := S.len
  obtain ⟨b, E, F1, F2, B, hp⟩ := S
  have hb : ¬ cs.getD i 0 < 0 ∧ ¬ (255 : Int32) < cs.getD i 0 := hp _ (by simp [List.getD, hi])
  refine Ctr.of (n1 := n0) #[.val (.ref a), .val (.int (Int32.ofNat i))] (plainFor_of_name pn0) (fun m => by first | (simp [entryFrame, mkF, argsToLocals, Value.category, maxLocals]; done) | rfl) ?_
  intro p e s m below meth c C
  refine g_aloadN C d25_0 (v := (.ref a)) rfl rfl (q := 1) rfl ?_
  refine g_callV C (W := 0) (argsL := []) (rest := []) (a := a) d25_1 (wd107 hw) (wd108 hw) (wd110 hw) (wd109 hw) (by decide) (nf_of C (wd110 hw)) E (Ctr.bk (c_isl1 l Z a0 G cz fm LG0 h0 n0 X0 a F1) C (wd111 hw) (wd6 hw) (by decide) (by decide)) (by decide) (by decide) rfl (lenOf pd3 rfl) rfl rfl (q := 4) rfl (fun v1 h1 hQ1 => ?_)
  obtain ⟨rfl, rfl⟩ := hQ1
  refine ⟨[(.int (1 : Int32))], rfl, ?_⟩
  refine g_if_eq C d25_4 (q' := 16) (q := 7) (by decide) (by decide) rfl (fun hy => absurd hy (by decide)) (fun hn => ?_)
  refine g_aloadN C d25_7 (v := (.ref a)) rfl rfl (q := 8) rfl ?_
  refine g_getf C d25_8 (host := "") (Or.inl (wd28 hw)) Via.refl F2 (q := 11) rfl ?_
  refine g_iloadN C d25_11 (v := (Int32.ofNat i)) rfl (q := 12) rfl ?_
  refine g_callS C (W := 0) (argsL := [(.ref b), (.int (Int32.ofNat i))]) (rest := []) d25_12 (wd140 hw) (wd141 hw) (wd49 hw) (wd142 hw) (by decide) (Ctr.bk (c_l1char l Z a0 G cz fm LG0 h0 n0 X0 b cs i B hi hnn hb) C (wd142 hw) (wd49 hw) (by decide) (by decide)) (by decide) (by decide) rfl (lenOf pd4 rfl) rfl rfl (q := 15) rfl (fun v2 h2 hQ2 => ?_)
  obtain ⟨rfl, rfl⟩ := hQ2
  refine ⟨[(.int (cs.getD i 0))], rfl, ?_⟩
  refine g_nreturn C d25_15 (by simp) (z := cs.getD i 0) (byte_nar hb) (Nat.le_refl _) (by decide) (by decide) ⟨rfl, rfl⟩
theorem c_charAtG (l : Launch) (Z : State) (a0 : Array Value) (G : Gl Z a0) (cz : Int32) (fm : Value) (LG0 : LG Z cz fm) (h0 : Heap) (n0 : Nat) (X0 : Ext Z.heap h0) (UG0 : UG Z) (a : Addr) (cs : List Int32) (S : SG Z h0 a cs) (i : Nat) (hi : i < cs.length) :
    Ctr l Z (⟨"java/lang/String", "charAt", "(I)C"⟩ : MethodName) jdk_42_method_56_code 2 (some .char) rmL4 #[(.ref a), (.int (Int32.ofNat i))] h0 n0 (fun v h => h0 = h ∧ v = some (.int (cs.getD i 0))) := S.elim (fun S => c_charAtL l Z a0 G cz fm LG0 h0 n0 X0 a cs S i hi) (fun S => c_charAtU l Z a0 G cz fm LG0 h0 n0 X0 UG0 a cs S i hi)
abbrev rmV0 : Room := { frames := 1, cells := 1, slots := 2, locals := 16 }
abbrev rmV1 : Room := { frames := 2, cells := 2, slots := 8, locals := 40 }
set_option maxRecDepth 65536 in
set_option maxHeartbeats 40000000 in
theorem c_canEnc (l : Launch) (Z : State) (a0 : Array Value) (G : Gl Z a0) (ch : Int32) (h0 : Heap) (n0 : Nat) :
    Ctr l Z (⟨"java/lang/StringLatin1", "canEncode", "(C)Z"⟩ : MethodName) jdk_43_method_3_code 1 (some .boolean) rmU0 #[(.int ch)] h0 n0 (fun v h => h0 = h ∧ ∃ r, v = some (.int r) ∧ AN (¬ (255 : Int32) < ch) r) := by
  have hw := G.1
  refine Ctr.of (n1 := n0) #[.val (.int ch)] (plainFor_of_name pn2) (fun m => by first | (simp [entryFrame, mkF, argsToLocals, Value.category, maxLocals]; done) | rfl) ?_
  intro p e s m below meth c C
  refine g_iloadN C d10_0 (v := ch) rfl (q := 1) rfl ?_
  refine g_sipush C d10_1 (z := (255 : Int32)) rfl (q := 4) rfl ?_
  refine g_icmp_gt C d10_4 (q' := 11) (q := 7) (by decide) (by decide) rfl (fun q1 => ?_) (fun q1 => ?_)
  ·
    refine g_iconst C d10_11 (z := (0 : Int32)) rfl (q := 12) rfl ?_
    refine g_nreturn C d10_12 (by simp) (z := 0) rfl (Nat.le_refl _) (by decide) (by decide) ⟨rfl, _, rfl, Or.inr ⟨fun q => q q1, rfl⟩⟩
  ·
    refine g_iconst C d10_7 (z := (1 : Int32)) rfl (q := 8) rfl ?_
    refine g_goto C d10_8 (q := 12) (by decide) (by decide) ?_
    refine g_nreturn C d10_12 (by simp) (z := 1) rfl (Nat.le_refl _) (by decide) (by decide) ⟨rfl, _, rfl, Or.inl ⟨q1, rfl⟩⟩
set_option maxRecDepth 65536 in
set_option maxHeartbeats 40000000 in
theorem c_tb1 (l : Launch) (Z : State) (a0 : Array Value) (G : Gl Z a0) (ch : Int32) (h0 : Heap) (n0 : Nat) (Z0 : n0 ≤ h0.size) :
    Ctr l Z (⟨"java/lang/StringLatin1", "toBytes", "(C)[B"⟩ : MethodName) jdk_43_method_46_code 1 (some (.array .byte)) rmV0 #[(.int ch)] h0 n0 (fun v h => ∃ b, v = some (.ref b) ∧ h0.size ≤ b ∧ Keep h0 h [] ∧ Av Z h b .byte 1 (fun _ => .int (ch.toInt8.toInt32))) := by
  have hw := G.1
  refine Ctr.of (n1 := n0) #[.val (.int ch)] (plainFor_of_name pn2) (fun m => by first | (simp [entryFrame, mkF, argsToLocals, Value.category, maxLocals]; done) | rfl) ?_
  intro p e s m below meth c C
  refine g_iconst C d11_0 (z := (1 : Int32)) rfl (q := 1) rfl ?_
  refine g_newarray C d11_1 (wd8 hw) (by decide) (cap := 1) (by decide) (by decide) (by decide) (by decide) (q := 3) rfl (fun b h1 k1 q1 E1 A1 => ?_)
  have B1 : Av Z h1 b .byte 1 (fun _ => .int 0) := Av.new A1 (by decide)
  have gb0 : h0.size ≤ b := by rw [q1]; exact Nat.le_refl _
  refine g_dup C d11_3 rfl (q := 4) rfl ?_
  refine g_iconst C d11_4 (z := (0 : Int32)) rfl (q := 5) rfl ?_
  refine g_iloadN C d11_5 (v := ch) rfl (q := 6) rfl ?_
  refine g_i2b C d11_6 (q := 7) rfl ?_
  refine g_bastore C d11_7 (i := 0) B1 (by decide) rfl (Nat.le_trans Z0 gb0) (q := 8) rfl (fun h2 W2 B2 => ?_)
  refine g_areturn C d11_8 rfl rfl (Nat.le_refl _) (by decide) (by decide) ⟨b, rfl, gb0, (Ext.kp E1 []).wr W2 (Or.inr gb0), B2.congr (fun j hj => by rw [if_pos (by omega), nar_b])⟩
set_option maxRecDepth 65536 in
set_option maxHeartbeats 40000000 in
theorem c_tb2 (l : Launch) (Z : State) (a0 : Array Value) (G : Gl Z a0) (UG0 : UG Z) (h0 : Heap) (n0 : Nat) (X0 : Ext Z.heap h0) (ch : Int32) (Z0 : n0 ≤ h0.size) :
    Ctr l Z (⟨"java/lang/StringUTF16", "toBytes", "(C)[B"⟩ : MethodName) jdk_52_method_24_code 2 (some (.array .byte)) rmV0 #[(.int ch)] h0 n0 (fun v h => ∃ b, v = some (.ref b) ∧ h0.size ≤ b ∧ Keep h0 h [] ∧ Av Z h b .byte 2 (ub [ch])) := by
  have hw := G.1
  refine Ctr.of (n1 := n0) #[.val (.int ch), .unset] (plainFor_of_name pn3) (fun m => by first | (simp [entryFrame, mkF, argsToLocals, Value.category, maxLocals]; done) | rfl) ?_
  intro p e s m below meth c C
  refine g_iconst C d14_0 (z := (2 : Int32)) rfl (q := 1) rfl ?_
  refine g_newarray C d14_1 (wd8 hw) (by decide) (cap := 2) (by decide) (by decide) (by decide) (by decide) (q := 3) rfl (fun b h1 k1 q1 E1 A1 => ?_)
  have B1 : Av Z h1 b .byte 2 (fun _ => .int 0) := Av.new A1 (by decide)
  have gb0 : h0.size ≤ b := by rw [q1]; exact Nat.le_refl _
  refine g_astoreN C d14_3 rfl (L' := #[.val (.int ch), .val (.ref b)]) rfl (q := 4) rfl ?_
  refine g_aloadN C d14_4 (v := (.ref b)) rfl rfl (q := 5) rfl ?_
  refine g_iconst C d14_5 (z := (0 : Int32)) rfl (q := 6) rfl ?_
  refine g_iloadN C d14_6 (v := ch) rfl (q := 7) rfl ?_
  refine g_callS C (W := 0) (argsL := [(.ref b), (.int (0 : Int32)), (.int ch)]) (rest := []) d14_7 (wd66 hw) (wd67 hw) (wd64 hw) (wd68 hw) (by decide) (Ctr.bk (c_putChar l Z a0 G UG0 h1 n0 (Ext.tr X0 E1) b 0 2 ch _ B1 (by decide) (Nat.le_trans Z0 gb0) (Nat.le_trans X0.1 gb0)) C (wd68 hw) (wd64 hw) (by decide) (by decide)) (by decide) (by decide) rfl (lenOf pd6 rfl) rfl rfl (q := 10) rfl (fun v2 h2 hQ2 => ?_)
  obtain ⟨rfl, K2, B2⟩ := hQ2
  refine ⟨[], rfl, ?_⟩
  refine g_aloadN C d14_10 (v := (.ref b)) rfl rfl (q := 11) rfl ?_
  refine g_areturn C d14_11 rfl rfl (Nat.le_refl _) (by decide) (by decide) ⟨b, rfl, gb0, (Ext.kp E1 []).trans K2 (fun x hx => Or.inr (by cases List.mem_singleton.mp hx; exact gb0)), B2.congr (fun j hj => by
      obtain rfl | rfl : j = 0 ∨ j = 1 := by omega
      · exact (ub_lo [ch] 0).symm
      · exact (ub_hi [ch] 0).symm)⟩
set_option maxRecDepth 65536 in
set_option maxHeartbeats 40000000 in
theorem c_initBB (l : Launch) (Z : State) (a0 : Array Value) (G : Gl Z a0) (z0 : Int32) (hz1 : narrow .byte (.int z0) = .int z0) (hz2 : fits .byte (.int z0) = true) (t b : Addr) (h0 : Heap) (n0 : Nat) (gt : n0 ≤ t) (E0 : Exa Z h0 t "java/lang/String") (o1 o2 : Value) (V0 : Fld Z h0 t "java/lang/String" "value" "[B" o1) (C0 : Fld Z h0 t "java/lang/String" "coder" "B" o2) :
    Ctr l Z (⟨"java/lang/String", "<init>", "([BB)V"⟩ : MethodName) jdk_42_method_151_code 3 none rmL1 #[(.ref t), (.ref b), (.int z0)] h0 n0 (fun v h => v = none ∧ Keep h0 h [t] ∧ Exa Z h t "java/lang/String" ∧ Fld Z h t "java/lang/String" "coder" "B" (.int z0) ∧ Fld Z h t "java/lang/String" "value" "[B" (.ref b)) := by
  have hw := G.1
  refine Ctr.of (n1 := n0) #[.val (.ref t), .val (.ref b), .val (.int z0)] (plainFor_of_name pn0) (fun m => by first | (simp [entryFrame, mkF, argsToLocals, Value.category, maxLocals]; done) | rfl) ?_
  intro p e s m below meth c C
  refine g_aloadN C d12_0 (v := (.ref t)) rfl rfl (q := 1) rfl ?_
  refine g_initO C d12_1 (wd59 hw) (wd60 hw) (wd61 hw) rfl (by decide) (W := 0) rfl (by decide) (q := 4) rfl ?_
  refine g_aloadN C d12_4 (v := (.ref t)) rfl rfl (q := 5) rfl ?_
  refine g_aloadN C d12_5 (v := (.ref b)) rfl rfl (q := 6) rfl ?_
  refine g_putf C d12_6 (host := "") (Or.inl (wd28 hw)) Via.refl V0 E0 (Or.inr ⟨(wd9 hw), rfl, rfl⟩) (wd7 hw) (ty := (.array .byte)) (by decide) rfl rfl gt (q := 9) rfl (fun h1 W1 => ?_)
  have E1 := E0.wr W1
  have V1 := V0.same W1
  have C1_ := C0.other W1 (Or.inr (slot_ne (Or.inr (wd10 hw)) (Or.inr (wd9 hw)) (by decide) (t := .byte) (t' := .array .byte) (by decide) (by decide)))
  refine g_aloadN C d12_9 (v := (.ref t)) rfl rfl (q := 10) rfl ?_
  refine g_iloadN C d12_10 (v := z0) rfl (q := 11) rfl ?_
  refine g_putf C d12_11 (host := "") (Or.inl (wd35 hw)) Via.refl C1_ E1 (Or.inr ⟨(wd10 hw), rfl, rfl⟩) (wd7 hw) (ty := .byte) (by decide) hz1 hz2 gt (q := 14) rfl (fun h2 W2 => ?_)
  refine g_return C d12_14 (Nat.le_refl _) (by decide) (by decide) ⟨rfl, ((Keep.refl h0 [t]).wr W1 (Or.inl (by simp))).wr W2 (Or.inl (by simp)), E1.wr W2, C1_.same W2, V1.other W2 (Or.inr (slot_ne (Or.inr (wd9 hw)) (Or.inr (wd10 hw)) (by decide) (t := .array .byte) (t' := .byte) (by decide) (by decide)))⟩
set_option maxRecDepth 65536 in
set_option maxHeartbeats 40000000 in
theorem c_valueOf (l : Launch) (Z : State) (a0 : Array Value) (G : Gl Z a0) (cz : Int32) (S0 : Sta Z Z.heap "java/lang/String" "COMPACT_STRINGS" "Z" (.int cz)) (hcz : ¬ cz = 0) (UG0 : UG Z) (h0 : Heap) (n0 : Nat) (X0 : Ext Z.heap h0) (Z0 : n0 ≤ h0.size) (ch : Int32) (hch : CHR ch) :
    Ctr l Z (⟨"java/lang/String", "valueOf", "(C)Ljava/lang/String;"⟩ : MethodName) jdk_42_method_139_code 1 (some (.object "java/lang/String")) rmV1 #[(.int ch)] h0 n0 (fun v h => ∃ t, v = some (.ref t) ∧ h0.size ≤ t ∧ Keep h0 h [] ∧ SG Z h t [ch]) := by
  have hw := G.1
  refine Ctr.of (n1 := n0) #[.val (.int ch)] (plainFor_of_name pn0) (fun m => by first | (simp [entryFrame, mkF, argsToLocals, Value.category, maxLocals]; done) | rfl) ?_
  intro p e s m below meth c C
  refine g_gets C d9_0 (host := "") (Or.inl (wd34 hw)) Via.refl (S0.ext X0) (q := 3) rfl ?_
  refine g_if_eq C d9_3 (q' := 26) (q := 6) (by decide) (by decide) rfl (fun hy => absurd hy hcz) (fun hn => ?_)
  refine g_iloadN C d9_6 (v := ch) rfl (q := 7) rfl ?_
  refine g_callS C (W := 0) (argsL := [(.int ch)]) (rest := []) d9_7 (wd47 hw) (wd48 hw) (wd49 hw) (wd50 hw) (by decide) (Ctr.bk (c_canEnc l Z a0 G ch h0 n0) C (wd50 hw) (wd49 hw) (by decide) (by decide)) (by decide) (by decide) rfl (lenOf pd14 rfl) rfl rfl (q := 10) rfl (fun v1 h1 hQ1 => ?_)
  obtain ⟨rfl, r, rfl, hA⟩ := hQ1
  refine ⟨[(.int r)], rfl, ?_⟩
  rcases hA with ⟨hle, rfl⟩ | ⟨hgt, rfl⟩
  ·
    refine g_if_eq C d9_10 (q' := 26) (q := 13) (by decide) (by decide) rfl (fun hy => absurd hy (by decide)) (fun hn => ?_)
    refine g_new C d9_13 (wd51 hw) (wd7 hw) (wd6 hw) (by decide) (by decide) (q := 16) rfl (fun t h2 q2 E2 A2 D2 => ?_)
    refine g_dup C d9_16 rfl (q := 17) rfl ?_
    refine g_iloadN C d9_17 (v := ch) rfl (q := 18) rfl ?_
    refine g_callS C (W := 2) (argsL := [(.int ch)]) (rest := [(.ref t), (.ref t)]) d9_18 (wd52 hw) (wd53 hw) (wd49 hw) (wd54 hw) (by decide) (Ctr.bk (c_tb1 l Z a0 G ch h2 n0 (Nat.le_trans Z0 E2.1)) C (wd54 hw) (wd49 hw) (by decide) (by decide)) (by decide) (by decide) rfl (lenOf pd15 rfl) rfl rfl (q := 21) rfl (fun v3 h3 hQ3 => ?_)
    obtain ⟨b, rfl, gb, K3, B3⟩ := hQ3
    refine ⟨[(.ref b), (.ref t), (.ref t)], rfl, ?_⟩
    refine g_iconst C d9_21 (z := (0 : Int32)) rfl (q := 22) rfl ?_
    refine g_callI C (W := 1) (argsL := [(.ref b), (.int (0 : Int32))]) (rest := [(.ref t)]) (a := t) d9_22 rfl (wd55 hw) (wd56 hw) (wd58 hw) (by decide) (Ctr.bk (c_initBB l Z a0 G 0 rfl rfl t b h3 n0 (by rw [q2]; exact Z0) (A2.keep K3) _ _ ((D2 (Or.inr (wd9 hw)) (ty := .array .byte) (by decide)).keep K3 (by simp)) ((D2 (Or.inr (wd10 hw)) (ty := .byte) (by decide)).keep K3 (by simp))) C (wd58 hw) (wd6 hw) (by decide) (by decide)) (by decide) (by decide) rfl (lenOf pd16 rfl) rfl rfl (q := 25) rfl (fun v4 h4 hQ4 => ?_)
    obtain ⟨rfl, K4, E4, C4, V4⟩ := hQ4
    refine ⟨[(.ref t)], rfl, ?_⟩
    have nbt : b ≠ t := B3.ne_exa (A2.keep K3) (wd7 hw)
    have B4 := B3.keep K4 (by simpa using nbt)
    refine g_areturn C d9_25 rfl rfl (Nat.le_refl _) (by decide) (by decide) ⟨t, rfl, by rw [q2]; exact Nat.le_refl _, ((Ext.kp E2 []).trans K3 (by simp)).trans K4 (fun x hx => Or.inr (by cases List.mem_singleton.mp hx; rw [q2]; exact Nat.le_refl _)), Or.inl ⟨b, E4, C4, V4, B4.congr (fun j hj => by
        obtain rfl : j = 0 := by omega
        rfl), fun c hc => by cases List.mem_singleton.mp hc; exact ⟨hch.1, hle⟩⟩⟩
  ·
    refine g_if_eq C d9_10 (q' := 26) (q := 13) (by decide) (by decide) rfl (fun hy => ?_) (fun hn => absurd rfl hn)
    refine g_new C d9_26 (wd51 hw) (wd7 hw) (wd6 hw) (by decide) (by decide) (q := 29) rfl (fun t h2 q2 E2 A2 D2 => ?_)
    refine g_dup C d9_29 rfl (q := 30) rfl ?_
    refine g_iloadN C d9_30 (v := ch) rfl (q := 31) rfl ?_
    refine g_callS C (W := 2) (argsL := [(.int ch)]) (rest := [(.ref t), (.ref t)]) d9_31 (wd62 hw) (wd63 hw) (wd64 hw) (wd65 hw) (by decide) (Ctr.bk (c_tb2 l Z a0 G UG0 h2 n0 (Ext.tr X0 E2) ch (Nat.le_trans Z0 E2.1)) C (wd65 hw) (wd64 hw) (by decide) (by decide)) (by decide) (by decide) rfl (lenOf pd15 rfl) rfl rfl (q := 34) rfl (fun v3 h3 hQ3 => ?_)
    obtain ⟨b, rfl, gb, K3, B3⟩ := hQ3
    refine ⟨[(.ref b), (.ref t), (.ref t)], rfl, ?_⟩
    refine g_iconst C d9_34 (z := (1 : Int32)) rfl (q := 35) rfl ?_
    refine g_callI C (W := 1) (argsL := [(.ref b), (.int (1 : Int32))]) (rest := [(.ref t)]) (a := t) d9_35 rfl (wd55 hw) (wd56 hw) (wd58 hw) (by decide) (Ctr.bk (c_initBB l Z a0 G 1 rfl rfl t b h3 n0 (by rw [q2]; exact Z0) (A2.keep K3) _ _ ((D2 (Or.inr (wd9 hw)) (ty := .array .byte) (by decide)).keep K3 (by simp)) ((D2 (Or.inr (wd10 hw)) (ty := .byte) (by decide)).keep K3 (by simp))) C (wd58 hw) (wd6 hw) (by decide) (by decide)) (by decide) (by decide) rfl (lenOf pd16 rfl) rfl rfl (q := 38) rfl (fun v4 h4 hQ4 => ?_)
    obtain ⟨rfl, K4, E4, C4, V4⟩ := hQ4
    refine ⟨[(.ref t)], rfl, ?_⟩
    have nbt : b ≠ t := B3.ne_exa (A2.keep K3) (wd7 hw)
    have B4 := B3.keep K4 (by simpa using nbt)
    refine g_areturn C d9_38 rfl rfl (Nat.le_refl _) (by decide) (by decide) ⟨t, rfl, by rw [q2]; exact Nat.le_refl _, ((Ext.kp E2 []).trans K3 (by simp)).trans K4 (fun x hx => Or.inr (by cases List.mem_singleton.mp hx; rw [q2]; exact Nat.le_refl _)), Or.inr ⟨b, E4, C4, V4, B4, fun c hc => by cases List.mem_singleton.mp hc; exact hch⟩⟩
/-- the literal "" is still open, or it is the String at an address -/
def LE (Z : State) (vm : Vm) (h : Heap) : Prop := IB Z vm [] ∨ ∃ ae, Lit (Z.setVm vm) "hornwright/model/Utf8OrderComparePinLaw" 28 ae ∧ SL Z h ae []
theorem LE.warm {Z s0 : State} {vm0 vm1 : Vm} {h : Heap} (L : LE Z vm0 h) (hW : (s0.setVm vm0).WarmedH vm1) : LE Z vm1 h := by
  rcases L with I | ⟨ae, Lt, Se⟩
  · exact Or.inl (IB.warm I hW)
  · exact Or.inr ⟨ae, Lit.stays (s := s0) (vm0 := vm0) Lt hW.wide, Se⟩
theorem LE.keep {Z : State} {vm : Vm} {h h' : Heap} (L : LE Z vm h) (K : Keep h h' []) : LE Z vm h' := by
  rcases L with I | ⟨ae, Lt, Se⟩
  · exact Or.inl I
  · exact Or.inr ⟨ae, Lt, Se.keep K (by simp)⟩
def ml (K : Nat) (x y : Int32) : List Int32 := if K = 0 then [] else if K = 1 then [x] else [x, y]
def sgF (v : Int32) : Int32 := if v < 0 then -1 else if 0 < v then 1 else 0
def icF (x y : Int32) : Int32 := if x < y then -1 else if x = y then 0 else 1
def keyF (ch : Int32) : Int32 := if ch < 55296 then ch else if 57343 < ch then ch else ch + 65536
def rankF (ch : Int32) : Int32 := if ch < 57344 then (if ch < 55296 then ch else ch + 8192) else ch - 2048
def cmpF (f g : Nat → Int32) (n m : Nat) : Nat → Nat → Int32
  | 0, _ => icF (Int32.ofNat n) (Int32.ofNat m)
  | d + 1, i => if f i = g i then cmpF f g n m d (i + 1) else icF (rankF (f i)) (rankF (g i))
def exF (na x0 x1 nb y0 y1 : Int32) : Int32 := if ¬ 0 < na then sgF (na - nb) else if ¬ 0 < nb then sgF (na - nb) else if x0 = y0 then (if ¬ 1 < na then sgF (na - nb) else if ¬ 1 < nb then sgF (na - nb) else if x1 = y1 then sgF (na - nb) else sgF (keyF x1 - keyF y1)) else sgF (keyF x0 - keyF y0)
abbrev rmX1 : Room := { frames := 1, cells := 0, slots := 0, locals := 24 }
abbrev rmX5 : Room := { frames := 5, cells := 0, slots := 0, locals := 96 }
abbrev rmMk : Room := { frames := 6, cells := 4, slots := 40, locals := 144 }
set_option maxRecDepth 65536 in
set_option maxHeartbeats 40000000 in
theorem c_sign (l : Launch) (Z : State) (a0 : Array Value) (G : Gl Z a0) (z : Int32) (h0 : Heap) (n0 : Nat) :
    Ctr l Z (⟨"hornwright/model/Utf8OrderComparePinLaw", "sign", "(I)I"⟩ : MethodName) method_5_code 1 (some .int) rmU0 #[(.int z)] h0 n0 (fun v h => h0 = h ∧ v = some (.int (sgF z))) := by
  have hw := G.1
  refine Ctr.of (n1 := n0) #[.val (.int z)] (plainFor_of_name pn4) (fun m => by first | (simp [entryFrame, mkF, argsToLocals, Value.category, maxLocals]; done) | rfl) ?_
  intro p e s m below meth c C
  refine g_iloadN C d3_0 (v := z) rfl (q := 1) rfl ?_
  refine g_if_ge C d3_1 (q' := 6) (q := 4) (by decide) (by decide) rfl (fun q1 => ?_) (fun q1 => ?_)
  ·
    refine g_iloadN C d3_6 (v := z) rfl (q := 7) rfl ?_
    refine g_if_le C d3_7 (q' := 12) (q := 10) (by decide) (by decide) rfl (fun q2 => ?_) (fun q2 => ?_)
    ·
      refine g_iconst C d3_12 (z := (0 : Int32)) rfl (q := 13) rfl ?_
      refine g_ireturn C d3_13 (Nat.le_refl _) (by decide) (by decide) ⟨rfl, by unfold sgF; rw [if_neg q1, if_neg q2]⟩
    ·
      refine g_iconst C d3_10 (z := (1 : Int32)) rfl (q := 11) rfl ?_
      refine g_ireturn C d3_11 (Nat.le_refl _) (by decide) (by decide) ⟨rfl, by unfold sgF; rw [if_neg q1, if_pos q2]⟩
  ·
    refine g_iconst C d3_4 (z := (-1 : Int32)) rfl (q := 5) rfl ?_
    refine g_ireturn C d3_5 (Nat.le_refl _) (by decide) (by decide) ⟨rfl, by unfold sgF; rw [if_pos q1]⟩
set_option maxRecDepth 65536 in
set_option maxHeartbeats 40000000 in
theorem c_icmp (l : Launch) (Z : State) (a0 : Array Value) (G : Gl Z a0) (z1 z2 : Int32) (h0 : Heap) (n0 : Nat) :
    Ctr l Z (⟨"java/lang/Integer", "compare", "(II)I"⟩ : MethodName) jdk_33_method_40_code 2 (some .int) rmU0 #[(.int z1), (.int z2)] h0 n0 (fun v h => h0 = h ∧ v = some (.int (icF z1 z2))) := by
  have hw := G.1
  refine Ctr.of (n1 := n0) #[.val (.int z1), .val (.int z2)] (plainFor_of_name pn5) (fun m => by first | (simp [entryFrame, mkF, argsToLocals, Value.category, maxLocals]; done) | rfl) ?_
  intro p e s m below meth c C
  refine g_iloadN C d8_0 (v := z1) rfl (q := 1) rfl ?_
  refine g_iloadN C d8_1 (v := z2) rfl (q := 2) rfl ?_
  refine g_icmp_ge C d8_2 (q' := 9) (q := 5) (by decide) (by decide) rfl (fun q1 => ?_) (fun q1 => ?_)
  ·
    refine g_iloadN C d8_9 (v := z1) rfl (q := 10) rfl ?_
    refine g_iloadN C d8_10 (v := z2) rfl (q := 11) rfl ?_
    refine g_icmp_ne C d8_11 (q' := 18) (q := 14) (by decide) (by decide) rfl (fun q2 => ?_) (fun q2 => ?_)
    ·
      refine g_iconst C d8_18 (z := (1 : Int32)) rfl (q := 19) rfl ?_
      refine g_ireturn C d8_19 (Nat.le_refl _) (by decide) (by decide) ⟨rfl, by unfold icF; rw [if_neg q1, if_neg q2]⟩
    ·
      refine g_iconst C d8_14 (z := (0 : Int32)) rfl (q := 15) rfl ?_
      refine g_goto C d8_15 (q := 19) (by decide) (by decide) ?_
      refine g_ireturn C d8_19 (Nat.le_refl _) (by decide) (by decide) ⟨rfl, by unfold icF; rw [if_neg q1, if_pos q2]⟩
  ·
    refine g_iconst C d8_5 (z := (-1 : Int32)) rfl (q := 6) rfl ?_
    refine g_goto C d8_6 (q := 19) (by decide) (by decide) ?_
    refine g_ireturn C d8_19 (Nat.le_refl _) (by decide) (by decide) ⟨rfl, by unfold icF; rw [if_pos q1]⟩
set_option maxRecDepth 65536 in
set_option maxHeartbeats 40000000 in
theorem c_key (l : Launch) (Z : State) (a0 : Array Value) (G : Gl Z a0) (ch : Int32) (h0 : Heap) (n0 : Nat) :
    Ctr l Z (⟨"hornwright/model/Utf8OrderComparePinLaw", "key", "(C)I"⟩ : MethodName) method_4_code 1 (some .int) rmU0 #[(.int ch)] h0 n0 (fun v h => h0 = h ∧ v = some (.int (keyF ch))) := by
  have hw := G.1
  refine Ctr.of (n1 := n0) #[.val (.int ch)] (plainFor_of_name pn4) (fun m => by first | (simp [entryFrame, mkF, argsToLocals, Value.category, maxLocals]; done) | rfl) ?_
  intro p e s m below meth c C
  refine g_iloadN C d32_0 (v := ch) rfl (q := 1) rfl ?_
  refine g_ldcInt C d32_1 (wd132 hw) (q := 3) rfl ?_
  refine g_icmp_lt C d32_3 (q' := 17) (q := 6) (by decide) (by decide) rfl (fun q1 => ?_) (fun q1 => ?_)
  ·
    refine g_iloadN C d32_17 (v := ch) rfl (q := 18) rfl ?_
    refine g_ireturn C d32_18 (Nat.le_refl _) (by decide) (by decide) ⟨rfl, by unfold keyF; rw [if_pos q1]⟩
  ·
    refine g_iloadN C d32_6 (v := ch) rfl (q := 7) rfl ?_
    refine g_ldcInt C d32_7 (wd133 hw) (q := 9) rfl ?_
    refine g_icmp_gt C d32_9 (q' := 17) (q := 12) (by decide) (by decide) rfl (fun q2 => ?_) (fun q2 => ?_)
    ·
      refine g_iloadN C d32_17 (v := ch) rfl (q := 18) rfl ?_
      refine g_ireturn C d32_18 (Nat.le_refl _) (by decide) (by decide) ⟨rfl, by unfold keyF; rw [if_neg q1, if_pos q2]⟩
    ·
      refine g_iloadN C d32_12 (v := ch) rfl (q := 13) rfl ?_
      refine g_ldcInt C d32_13 (wd134 hw) (q := 15) rfl ?_
      refine g_iadd C d32_15 (q := 16) rfl ?_
      refine g_ireturn C d32_16 (Nat.le_refl _) (by decide) (by decide) ⟨rfl, by unfold keyF; rw [if_neg q1, if_neg q2]⟩
set_option maxRecDepth 65536 in
set_option maxHeartbeats 40000000 in
theorem c_rank (l : Launch) (Z : State) (a0 : Array Value) (G : Gl Z a0) (ch : Int32) (h0 : Heap) (n0 : Nat) :
    Ctr l Z (⟨"hornwright/model/Utf8Order", "codePointRank", "(C)I"⟩ : MethodName) prog_52_method_3_code 1 (some .int) rmU0 #[(.int ch)] h0 n0 (fun v h => h0 = h ∧ v = some (.int (rankF ch))) := by
  have hw := G.1
  refine Ctr.of (n1 := n0) #[.val (.int ch)] (plainFor_of_name pn6) (fun m => by first | (simp [entryFrame, mkF, argsToLocals, Value.category, maxLocals]; done) | rfl) ?_
  intro p e s m below meth c C
  refine g_iloadN C d33_0 (v := ch) rfl (q := 1) rfl ?_
  refine g_ldcInt C d33_1 (wd138 hw) (q := 3) rfl ?_
  refine g_icmp_lt C d33_3 (q' := 12) (q := 6) (by decide) (by decide) rfl (fun q1 => ?_) (fun q1 => ?_)
  ·
    refine g_iloadN C d33_12 (v := ch) rfl (q := 13) rfl ?_
    refine g_ldcInt C d33_13 (wd139 hw) (q := 15) rfl ?_
    refine g_icmp_lt C d33_15 (q' := 24) (q := 18) (by decide) (by decide) rfl (fun q2 => ?_) (fun q2 => ?_)
    ·
      refine g_iloadN C d33_24 (v := ch) rfl (q := 25) rfl ?_
      refine g_ireturn C d33_25 (Nat.le_refl _) (by decide) (by decide) ⟨rfl, by unfold rankF; rw [if_pos q1, if_pos q2]⟩
    ·
      refine g_iloadN C d33_18 (v := ch) rfl (q := 19) rfl ?_
      refine g_sipush C d33_19 (z := (8192 : Int32)) rfl (q := 22) rfl ?_
      refine g_iadd C d33_22 (q := 23) rfl ?_
      refine g_ireturn C d33_23 (Nat.le_refl _) (by decide) (by decide) ⟨rfl, by unfold rankF; rw [if_pos q1, if_neg q2]⟩
  ·
    refine g_iloadN C d33_6 (v := ch) rfl (q := 7) rfl ?_
    refine g_sipush C d33_7 (z := (2048 : Int32)) rfl (q := 10) rfl ?_
    refine g_isub C d33_10 (q := 11) rfl ?_
    refine g_ireturn C d33_11 (Nat.le_refl _) (by decide) (by decide) ⟨rfl, by unfold rankF; rw [if_neg q1]⟩
set_option maxRecDepth 65536 in
set_option maxHeartbeats 40000000 in
theorem c_min (l : Launch) (Z : State) (a0 : Array Value) (G : Gl Z a0) (n k : Nat) (hn_ : n < 2 ^ 31) (hk : k < 2 ^ 31) (h0 : Heap) (n0 : Nat) :
    Ctr l Z (⟨"java/lang/Math", "min", "(II)I"⟩ : MethodName) jdk_29_method_69_code 2 (some .int) rmU0 #[(.int (Int32.ofNat n)), (.int (Int32.ofNat k))] h0 n0 (fun v h => h0 = h ∧ v = some (.int (Int32.ofNat (min n k)))) := by
  have hw := G.1
  refine Ctr.of (n1 := n0) #[.val (.int (Int32.ofNat n)), .val (.int (Int32.ofNat k))] (by decide +kernel) (fun m => by first | (simp [entryFrame, mkF, argsToLocals, Value.category, maxLocals]; done) | rfl) ?_
  intro p e s m below meth c C
  refine g_iloadN C d7_0 (v := (Int32.ofNat n)) rfl (q := 1) rfl ?_
  refine g_iloadN C d7_1 (v := (Int32.ofNat k)) rfl (q := 2) rfl ?_
  refine g_icmp_gt C d7_2 (q' := 9) (q := 5) (by decide) (by decide) rfl (fun q1 => ?_) (fun q1 => ?_)
  ·
    refine g_iloadN C d7_9 (v := (Int32.ofNat k)) rfl (q := 10) rfl ?_
    refine g_ireturn C d7_10 (Nat.le_refl _) (by decide) (by decide) ⟨rfl, by rw [Nat.min_eq_right (by rw [Int32.lt_iff_toInt_lt, Int32.toInt_ofNat_of_lt hk, Int32.toInt_ofNat_of_lt hn_] at q1; omega)]⟩
  ·
    refine g_iloadN C d7_5 (v := (Int32.ofNat n)) rfl (q := 6) rfl ?_
    refine g_goto C d7_6 (q := 10) (by decide) (by decide) ?_
    refine g_ireturn C d7_10 (Nat.le_refl _) (by decide) (by decide) ⟨rfl, by rw [Nat.min_eq_left (by rw [Int32.lt_iff_toInt_lt, Int32.toInt_ofNat_of_lt hk, Int32.toInt_ofNat_of_lt hn_] at q1; omega)]⟩
set_option maxRecDepth 65536 in
set_option maxHeartbeats 40000000 in
theorem c_expect (l : Launch) (Z : State) (a0 : Array Value) (G : Gl Z a0) (na x0 x1 nb y0 y1 : Int32) (h0 : Heap) (n0 : Nat) :
    Ctr l Z (⟨"hornwright/model/Utf8OrderComparePinLaw", "expect", "(ICCICC)I"⟩ : MethodName) method_6_code 6 (some .int) rmX1 #[(.int na), (.int x0), (.int x1), (.int nb), (.int y0), (.int y1)] h0 n0 (fun v h => h0 = h ∧ v = some (.int (exF na x0 x1 nb y0 y1))) := by
  have hw := G.1
  refine Ctr.of (n1 := n0) #[.val (.int na), .val (.int x0), .val (.int x1), .val (.int nb), .val (.int y0), .val (.int y1)] (plainFor_of_name pn4) (fun m => by first | (simp [entryFrame, mkF, argsToLocals, Value.category, maxLocals]; done) | rfl) ?_
  intro p e s m below meth c C
  refine g_iloadN C d2_0 (v := na) rfl (q := 1) rfl ?_
  refine g_if_le C d2_1 (q' := 58) (q := 4) (by decide) (by decide) rfl (fun q1 => ?_) (fun q1 => ?_)
  ·
    refine g_iloadN C d2_58 (v := na) rfl (q := 59) rfl ?_
    refine g_iloadN C d2_59 (v := nb) rfl (q := 60) rfl ?_
    refine g_isub C d2_60 (q := 61) rfl ?_
    refine g_callS C (W := 0) (argsL := [(.int (na - nb))]) (rest := []) d2_61 (wd16 hw) (wd17 hw) (wd3 hw) (wd18 hw) (by decide) (Ctr.bk (c_sign l Z a0 G _ h0 n0) C (wd18 hw) (wd3 hw) (by decide) (by decide)) (by decide) (by decide) rfl (lenOf pd5 rfl) rfl rfl (q := 64) rfl (fun v1 h1 hQ1 => ?_)
    obtain ⟨rfl, rfl⟩ := hQ1
    refine ⟨[(.int (sgF (na - nb)))], rfl, ?_⟩
    refine g_ireturn C d2_64 (Nat.le_refl _) (by decide) (by decide) ⟨rfl, by unfold exF; rw [if_pos q1]⟩
  ·
    refine g_iloadN C d2_4 (v := nb) rfl (q := 5) rfl ?_
    refine g_if_le C d2_5 (q' := 58) (q := 8) (by decide) (by decide) rfl (fun q2 => ?_) (fun q2 => ?_)
    ·
      refine g_iloadN C d2_58 (v := na) rfl (q := 59) rfl ?_
      refine g_iloadN C d2_59 (v := nb) rfl (q := 60) rfl ?_
      refine g_isub C d2_60 (q := 61) rfl ?_
      refine g_callS C (W := 0) (argsL := [(.int (na - nb))]) (rest := []) d2_61 (wd16 hw) (wd17 hw) (wd3 hw) (wd18 hw) (by decide) (Ctr.bk (c_sign l Z a0 G _ h0 n0) C (wd18 hw) (wd3 hw) (by decide) (by decide)) (by decide) (by decide) rfl (lenOf pd5 rfl) rfl rfl (q := 64) rfl (fun v1 h1 hQ1 => ?_)
      obtain ⟨rfl, rfl⟩ := hQ1
      refine ⟨[(.int (sgF (na - nb)))], rfl, ?_⟩
      refine g_ireturn C d2_64 (Nat.le_refl _) (by decide) (by decide) ⟨rfl, by unfold exF; rw [if_neg (fun z => z q1), if_pos q2]⟩
    ·
      refine g_iloadN C d2_8 (v := x0) rfl (q := 9) rfl ?_
      refine g_iload C d2_9 (v := y0) rfl (q := 11) rfl ?_
      refine g_icmp_eq C d2_11 (q' := 28) (q := 14) (by decide) (by decide) rfl (fun q3 => ?_) (fun q3 => ?_)
      ·
        refine g_iloadN C d2_28 (v := na) rfl (q := 29) rfl ?_
        refine g_iconst C d2_29 (z := (1 : Int32)) rfl (q := 30) rfl ?_
        refine g_icmp_le C d2_30 (q' := 58) (q := 33) (by decide) (by decide) rfl (fun q4 => ?_) (fun q4 => ?_)
        ·
          refine g_iloadN C d2_58 (v := na) rfl (q := 59) rfl ?_
          refine g_iloadN C d2_59 (v := nb) rfl (q := 60) rfl ?_
          refine g_isub C d2_60 (q := 61) rfl ?_
          refine g_callS C (W := 0) (argsL := [(.int (na - nb))]) (rest := []) d2_61 (wd16 hw) (wd17 hw) (wd3 hw) (wd18 hw) (by decide) (Ctr.bk (c_sign l Z a0 G _ h0 n0) C (wd18 hw) (wd3 hw) (by decide) (by decide)) (by decide) (by decide) rfl (lenOf pd5 rfl) rfl rfl (q := 64) rfl (fun v1 h1 hQ1 => ?_)
          obtain ⟨rfl, rfl⟩ := hQ1
          refine ⟨[(.int (sgF (na - nb)))], rfl, ?_⟩
          refine g_ireturn C d2_64 (Nat.le_refl _) (by decide) (by decide) ⟨rfl, by unfold exF; rw [if_neg (fun z => z q1), if_neg (fun z => z q2), if_pos q3, if_pos q4]⟩
        ·
          refine g_iloadN C d2_33 (v := nb) rfl (q := 34) rfl ?_
          refine g_iconst C d2_34 (z := (1 : Int32)) rfl (q := 35) rfl ?_
          refine g_icmp_le C d2_35 (q' := 58) (q := 38) (by decide) (by decide) rfl (fun q5 => ?_) (fun q5 => ?_)
          ·
            refine g_iloadN C d2_58 (v := na) rfl (q := 59) rfl ?_
            refine g_iloadN C d2_59 (v := nb) rfl (q := 60) rfl ?_
            refine g_isub C d2_60 (q := 61) rfl ?_
            refine g_callS C (W := 0) (argsL := [(.int (na - nb))]) (rest := []) d2_61 (wd16 hw) (wd17 hw) (wd3 hw) (wd18 hw) (by decide) (Ctr.bk (c_sign l Z a0 G _ h0 n0) C (wd18 hw) (wd3 hw) (by decide) (by decide)) (by decide) (by decide) rfl (lenOf pd5 rfl) rfl rfl (q := 64) rfl (fun v1 h1 hQ1 => ?_)
            obtain ⟨rfl, rfl⟩ := hQ1
            refine ⟨[(.int (sgF (na - nb)))], rfl, ?_⟩
            refine g_ireturn C d2_64 (Nat.le_refl _) (by decide) (by decide) ⟨rfl, by unfold exF; rw [if_neg (fun z => z q1), if_neg (fun z => z q2), if_pos q3, if_neg (fun z => z q4), if_pos q5]⟩
          ·
            refine g_iloadN C d2_38 (v := x1) rfl (q := 39) rfl ?_
            refine g_iload C d2_39 (v := y1) rfl (q := 41) rfl ?_
            refine g_icmp_eq C d2_41 (q' := 58) (q := 44) (by decide) (by decide) rfl (fun q6 => ?_) (fun q6 => ?_)
            ·
              refine g_iloadN C d2_58 (v := na) rfl (q := 59) rfl ?_
              refine g_iloadN C d2_59 (v := nb) rfl (q := 60) rfl ?_
              refine g_isub C d2_60 (q := 61) rfl ?_
              refine g_callS C (W := 0) (argsL := [(.int (na - nb))]) (rest := []) d2_61 (wd16 hw) (wd17 hw) (wd3 hw) (wd18 hw) (by decide) (Ctr.bk (c_sign l Z a0 G _ h0 n0) C (wd18 hw) (wd3 hw) (by decide) (by decide)) (by decide) (by decide) rfl (lenOf pd5 rfl) rfl rfl (q := 64) rfl (fun v1 h1 hQ1 => ?_)
              obtain ⟨rfl, rfl⟩ := hQ1
              refine ⟨[(.int (sgF (na - nb)))], rfl, ?_⟩
              refine g_ireturn C d2_64 (Nat.le_refl _) (by decide) (by decide) ⟨rfl, by unfold exF; rw [if_neg (fun z => z q1), if_neg (fun z => z q2), if_pos q3, if_neg (fun z => z q4), if_neg (fun z => z q5), if_pos q6]⟩
            ·
              refine g_iloadN C d2_44 (v := x1) rfl (q := 45) rfl ?_
              refine g_callS C (W := 0) (argsL := [(.int x1)]) (rest := []) d2_45 (wd129 hw) (wd130 hw) (wd3 hw) (wd131 hw) (by decide) (Ctr.bk (c_key l Z a0 G x1 h0 n0) C (wd131 hw) (wd3 hw) (by decide) (by decide)) (by decide) (by decide) rfl (lenOf pd17 rfl) rfl rfl (q := 48) rfl (fun v1 h1 hQ1 => ?_)
              obtain ⟨rfl, rfl⟩ := hQ1
              refine ⟨[(.int (keyF x1))], rfl, ?_⟩
              refine g_iload C d2_48 (v := y1) rfl (q := 50) rfl ?_
              refine g_callS C (W := 1) (argsL := [(.int y1)]) (rest := [(.int (keyF x1))]) d2_50 (wd129 hw) (wd130 hw) (wd3 hw) (wd131 hw) (by decide) (Ctr.bk (c_key l Z a0 G y1 h0 n0) C (wd131 hw) (wd3 hw) (by decide) (by decide)) (by decide) (by decide) rfl (lenOf pd17 rfl) rfl rfl (q := 53) rfl (fun v1 h1 hQ1 => ?_)
              obtain ⟨rfl, rfl⟩ := hQ1
              refine ⟨[(.int (keyF y1)), (.int (keyF x1))], rfl, ?_⟩
              refine g_isub C d2_53 (q := 54) rfl ?_
              refine g_callS C (W := 0) (argsL := [(.int ((keyF x1) - (keyF y1)))]) (rest := []) d2_54 (wd16 hw) (wd17 hw) (wd3 hw) (wd18 hw) (by decide) (Ctr.bk (c_sign l Z a0 G _ h0 n0) C (wd18 hw) (wd3 hw) (by decide) (by decide)) (by decide) (by decide) rfl (lenOf pd5 rfl) rfl rfl (q := 57) rfl (fun v1 h1 hQ1 => ?_)
              obtain ⟨rfl, rfl⟩ := hQ1
              refine ⟨[(.int (sgF (keyF x1 - keyF y1)))], rfl, ?_⟩
              refine g_ireturn C d2_57 (Nat.le_refl _) (by decide) (by decide) ⟨rfl, by unfold exF; rw [if_neg (fun z => z q1), if_neg (fun z => z q2), if_pos q3, if_neg (fun z => z q4), if_neg (fun z => z q5), if_neg q6]⟩
      ·
        refine g_iloadN C d2_14 (v := x0) rfl (q := 15) rfl ?_
        refine g_callS C (W := 0) (argsL := [(.int x0)]) (rest := []) d2_15 (wd129 hw) (wd130 hw) (wd3 hw) (wd131 hw) (by decide) (Ctr.bk (c_key l Z a0 G x0 h0 n0) C (wd131 hw) (wd3 hw) (by decide) (by decide)) (by decide) (by decide) rfl (lenOf pd17 rfl) rfl rfl (q := 18) rfl (fun v1 h1 hQ1 => ?_)
        obtain ⟨rfl, rfl⟩ := hQ1
        refine ⟨[(.int (keyF x0))], rfl, ?_⟩
        refine g_iload C d2_18 (v := y0) rfl (q := 20) rfl ?_
        refine g_callS C (W := 1) (argsL := [(.int y0)]) (rest := [(.int (keyF x0))]) d2_20 (wd129 hw) (wd130 hw) (wd3 hw) (wd131 hw) (by decide) (Ctr.bk (c_key l Z a0 G y0 h0 n0) C (wd131 hw) (wd3 hw) (by decide) (by decide)) (by decide) (by decide) rfl (lenOf pd17 rfl) rfl rfl (q := 23) rfl (fun v1 h1 hQ1 => ?_)
        obtain ⟨rfl, rfl⟩ := hQ1
        refine ⟨[(.int (keyF y0)), (.int (keyF x0))], rfl, ?_⟩
        refine g_isub C d2_23 (q := 24) rfl ?_
        refine g_callS C (W := 0) (argsL := [(.int ((keyF x0) - (keyF y0)))]) (rest := []) d2_24 (wd16 hw) (wd17 hw) (wd3 hw) (wd18 hw) (by decide) (Ctr.bk (c_sign l Z a0 G _ h0 n0) C (wd18 hw) (wd3 hw) (by decide) (by decide)) (by decide) (by decide) rfl (lenOf pd5 rfl) rfl rfl (q := 27) rfl (fun v1 h1 hQ1 => ?_)
        obtain ⟨rfl, rfl⟩ := hQ1
        refine ⟨[(.int (sgF (keyF x0 - keyF y0)))], rfl, ?_⟩
        refine g_ireturn C d2_27 (Nat.le_refl _) (by decide) (by decide) ⟨rfl, by unfold exF; rw [if_neg (fun z => z q1), if_neg (fun z => z q2), if_neg q3]⟩
set_option maxRecDepth 65536 in
set_option maxHeartbeats 40000000 in
theorem loopC {p : Program} {e : Env} {s : State} {m : MethodId} {args : Array Value} {below : List Frame} {meth : Method} {c : Code} (l : Launch) (Z : State) (a0 : Array Value) (G : Gl Z a0) (cz : Int32) (fm : Value) (LG0 : LG Z cz fm) (h0 : Heap) (n0 : Nat) (X0 : Ext Z.heap h0) (UG0 : UG Z) (a b : Addr) (cs ds : List Int32) (S1 : SG Z h0 a cs) (S2 : SG Z h0 b ds) (C : Cx p s m meth c Z "hornwright/model/Utf8Order" "compare" prog_52_method_2_code 6 (some .int)) (d i : Nat) (s4 s5 : Slot) (hd : d = min cs.length ds.length - i) (hin : i ≤ min cs.length ds.length) (hs4 : s4 = .unset ∨ ∃ x, s4 = .val (.int x)) (hs5 : s5 = .unset ∨ ∃ x, s5 = .val (.int x)) :
    Go p l e rmX5 s m args below meth c (FinN s below rmX5 n0 (fun v h => h0 = h ∧ v = some (.int (cmpF (fun j => cs.getD j 0) (fun j => ds.getD j 0) cs.length ds.length d i)))) n0 h0 0 0 14 #[.val (.ref a), .val (.ref b), .val (.int (Int32.ofNat (min cs.length ds.length))), .val (.int (Int32.ofNat i)), s4, s5] [] := by
  have hw := G.1
  have hl1 := S1.len
  have hl2 := S2.len
  induction d generalizing i s4 s5 with
  | zero =>
    obtain rfl : i = min cs.length ds.length := by omega
    refine g_iloadN C d4_14 (v := (Int32.ofNat (min cs.length ds.length))) rfl (q := 15) rfl ?_
    refine g_iloadN C d4_15 (v := (Int32.ofNat (min cs.length ds.length))) rfl (q := 16) rfl ?_
    refine g_icmp_ge C d4_16 (q' := 60) (q := 19) (by decide) (by decide) rfl (fun hy => ?_) (fun hn => absurd hn (nlt_nat (Nat.lt_irrefl _) (by omega) (by omega)))
    refine g_aloadN C d4_60 (v := (.ref a)) rfl rfl (q := 61) rfl ?_
    refine g_callV C (W := 0) (argsL := []) (rest := []) (a := a) d4_61 (wd23 hw) (wd24 hw) (wd26 hw) (wd25 hw) (by decide) (nf_of C (wd26 hw)) S1.exa (Ctr.bk (c_lenG l Z a0 G cz fm LG0 h0 n0 X0 a cs S1) C (wd27 hw) (wd6 hw) (by decide) (by decide)) (by decide) (by decide) rfl (lenOf pd18 rfl) rfl rfl (q := 64) rfl (fun v1 h1 hQ1 => ?_)
    obtain ⟨rfl, rfl⟩ := hQ1
    refine ⟨[(.int (Int32.ofNat cs.length))], rfl, ?_⟩
    refine g_aloadN C d4_64 (v := (.ref b)) rfl rfl (q := 65) rfl ?_
    refine g_callV C (W := 1) (argsL := []) (rest := [(.int (Int32.ofNat cs.length))]) (a := b) d4_65 (wd23 hw) (wd24 hw) (wd26 hw) (wd25 hw) (by decide) (nf_of C (wd26 hw)) S2.exa (Ctr.bk (c_lenG l Z a0 G cz fm LG0 h0 n0 X0 b ds S2) C (wd27 hw) (wd6 hw) (by decide) (by decide)) (by decide) (by decide) rfl (lenOf pd18 rfl) rfl rfl (q := 68) rfl (fun v1 h1 hQ1 => ?_)
    obtain ⟨rfl, rfl⟩ := hQ1
    refine ⟨[(.int (Int32.ofNat ds.length)), (.int (Int32.ofNat cs.length))], rfl, ?_⟩
    refine g_callS C (W := 0) (argsL := [(.int (Int32.ofNat cs.length)), (.int (Int32.ofNat ds.length))]) (rest := []) d4_68 (wd40 hw) (wd41 hw) (wd42 hw) (wd43 hw) (by decide) (Ctr.bk (c_icmp l Z a0 G _ _ h0 n0) C (wd43 hw) (wd42 hw) (by decide) (by decide)) (by decide) (by decide) rfl (lenOf pd19 rfl) rfl rfl (q := 71) rfl (fun v1 h1 hQ1 => ?_)
    obtain ⟨rfl, rfl⟩ := hQ1
    refine ⟨[(.int (icF (Int32.ofNat cs.length) (Int32.ofNat ds.length)))], rfl, ?_⟩
    refine g_ireturn C d4_71 (Nat.le_refl _) (by decide) (by decide) ⟨rfl, rfl⟩
  | succ d ih =>
    have hi : i < min cs.length ds.length := by omega
    refine g_iloadN C d4_14 (v := (Int32.ofNat i)) rfl (q := 15) rfl ?_
    refine g_iloadN C d4_15 (v := (Int32.ofNat (min cs.length ds.length))) rfl (q := 16) rfl ?_
    refine g_icmp_ge C d4_16 (q' := 60) (q := 19) (by decide) (by decide) rfl (fun hy => absurd (lt_nat hi (by omega)) hy) (fun hn => ?_)
    refine g_aloadN C d4_19 (v := (.ref a)) rfl rfl (q := 20) rfl ?_
    refine g_iloadN C d4_20 (v := (Int32.ofNat i)) rfl (q := 21) rfl ?_
    refine g_callV C (W := 0) (argsL := [(.int (Int32.ofNat i))]) (rest := []) (a := a) d4_21 (wd102 hw) (wd103 hw) (wd105 hw) (wd104 hw) (by decide) (nf_of C (wd105 hw)) S1.exa (Ctr.bk (c_charAtG l Z a0 G cz fm LG0 h0 n0 X0 UG0 a cs S1 i (by omega)) C (wd106 hw) (wd6 hw) (by decide) (by decide)) (by decide) (by decide) rfl (lenOf pd20 rfl) rfl rfl (q := 24) rfl (fun v1 h1 hQ1 => ?_)
    obtain ⟨rfl, rfl⟩ := hQ1
    refine ⟨[(.int (cs.getD i 0))], rfl, ?_⟩
    have stA : ∀ v, storeLocals #[.val (.ref a), .val (.ref b), .val (.int (Int32.ofNat (min cs.length ds.length))), .val (.int (Int32.ofNat i)), s4, s5] 4 (.int v) = some #[.val (.ref a), .val (.ref b), .val (.int (Int32.ofNat (min cs.length ds.length))), .val (.int (Int32.ofNat i)), .val (.int v), s5] := fun v => by rcases hs4 with rfl | ⟨x, rfl⟩ <;> rfl
    refine g_istore C d4_24 (L' := #[.val (.ref a), .val (.ref b), .val (.int (Int32.ofNat (min cs.length ds.length))), .val (.int (Int32.ofNat i)), .val (.int (cs.getD i 0)), s5]) (stA _) (q := 26) rfl ?_
    refine g_aloadN C d4_26 (v := (.ref b)) rfl rfl (q := 27) rfl ?_
    refine g_iloadN C d4_27 (v := (Int32.ofNat i)) rfl (q := 28) rfl ?_
    refine g_callV C (W := 0) (argsL := [(.int (Int32.ofNat i))]) (rest := []) (a := b) d4_28 (wd102 hw) (wd103 hw) (wd105 hw) (wd104 hw) (by decide) (nf_of C (wd105 hw)) S2.exa (Ctr.bk (c_charAtG l Z a0 G cz fm LG0 h0 n0 X0 UG0 b ds S2 i (by omega)) C (wd106 hw) (wd6 hw) (by decide) (by decide)) (by decide) (by decide) rfl (lenOf pd20 rfl) rfl rfl (q := 31) rfl (fun v1 h1 hQ1 => ?_)
    obtain ⟨rfl, rfl⟩ := hQ1
    refine ⟨[(.int (ds.getD i 0))], rfl, ?_⟩
    have stB_ : ∀ v, storeLocals #[.val (.ref a), .val (.ref b), .val (.int (Int32.ofNat (min cs.length ds.length))), .val (.int (Int32.ofNat i)), .val (.int (cs.getD i 0)), s5] 5 (.int v) = some #[.val (.ref a), .val (.ref b), .val (.int (Int32.ofNat (min cs.length ds.length))), .val (.int (Int32.ofNat i)), .val (.int (cs.getD i 0)), .val (.int v)] := fun v => by rcases hs5 with rfl | ⟨x, rfl⟩ <;> rfl
    refine g_istore C d4_31 (L' := #[.val (.ref a), .val (.ref b), .val (.int (Int32.ofNat (min cs.length ds.length))), .val (.int (Int32.ofNat i)), .val (.int (cs.getD i 0)), .val (.int (ds.getD i 0))]) (stB_ _) (q := 33) rfl ?_
    refine g_iload C d4_33 (v := (cs.getD i 0)) rfl (q := 35) rfl ?_
    refine g_iload C d4_35 (v := (ds.getD i 0)) rfl (q := 37) rfl ?_
    refine g_icmp_eq C d4_37 (q' := 54) (q := 40) (by decide) (by decide) rfl (fun q1 => ?_) (fun q1 => ?_)
    ·
      refine g_iinc C d4_54 rfl (L' := #[.val (.ref a), .val (.ref b), .val (.int (Int32.ofNat (min cs.length ds.length))), .val (.int ((Int32.ofNat i) + (1 : Int32))), .val (.int (cs.getD i 0)), .val (.int (ds.getD i 0))]) rfl (q := 57) rfl ?_
      refine g_goto C d4_57 (q := 14) (by decide) (by decide) ?_
      rw [of_succ, show cmpF (fun j => cs.getD j 0) (fun j => ds.getD j 0) cs.length ds.length (d + 1) i = cmpF (fun j => cs.getD j 0) (fun j => ds.getD j 0) cs.length ds.length d (i + 1) from by simp only [cmpF, if_pos q1]]
      exact ih (i + 1) _ _ (by omega) (by omega) (Or.inr ⟨_, rfl⟩) (Or.inr ⟨_, rfl⟩)
    ·
      refine g_iload C d4_40 (v := (cs.getD i 0)) rfl (q := 42) rfl ?_
      refine g_callS C (W := 0) (argsL := [(.int (cs.getD i 0))]) (rest := []) d4_42 (wd135 hw) (wd136 hw) (wd21 hw) (wd137 hw) (by decide) (Ctr.bk (c_rank l Z a0 G _ h0 n0) C (wd137 hw) (wd21 hw) (by decide) (by decide)) (by decide) (by decide) rfl (lenOf pd17 rfl) rfl rfl (q := 45) rfl (fun v1 h1 hQ1 => ?_)
      obtain ⟨rfl, rfl⟩ := hQ1
      refine ⟨[(.int (rankF (cs.getD i 0)))], rfl, ?_⟩
      refine g_iload C d4_45 (v := (ds.getD i 0)) rfl (q := 47) rfl ?_
      refine g_callS C (W := 1) (argsL := [(.int (ds.getD i 0))]) (rest := [(.int (rankF (cs.getD i 0)))]) d4_47 (wd135 hw) (wd136 hw) (wd21 hw) (wd137 hw) (by decide) (Ctr.bk (c_rank l Z a0 G _ h0 n0) C (wd137 hw) (wd21 hw) (by decide) (by decide)) (by decide) (by decide) rfl (lenOf pd17 rfl) rfl rfl (q := 50) rfl (fun v1 h1 hQ1 => ?_)
      obtain ⟨rfl, rfl⟩ := hQ1
      refine ⟨[(.int (rankF (ds.getD i 0))), (.int (rankF (cs.getD i 0)))], rfl, ?_⟩
      refine g_callS C (W := 0) (argsL := [(.int (rankF (cs.getD i 0))), (.int (rankF (ds.getD i 0)))]) (rest := []) d4_50 (wd40 hw) (wd41 hw) (wd42 hw) (wd43 hw) (by decide) (Ctr.bk (c_icmp l Z a0 G _ _ h0 n0) C (wd43 hw) (wd42 hw) (by decide) (by decide)) (by decide) (by decide) rfl (lenOf pd19 rfl) rfl rfl (q := 53) rfl (fun v1 h1 hQ1 => ?_)
      obtain ⟨rfl, rfl⟩ := hQ1
      refine ⟨[(.int (icF (rankF (cs.getD i 0)) (rankF (ds.getD i 0))))], rfl, ?_⟩
      refine g_ireturn C d4_53 (Nat.le_refl _) (by decide) (by decide) ⟨rfl, by simp only [cmpF, if_neg q1]⟩
set_option maxRecDepth 65536 in
set_option maxHeartbeats 40000000 in
theorem c_cmp (l : Launch) (Z : State) (a0 : Array Value) (G : Gl Z a0) (cz : Int32) (fm : Value) (LG0 : LG Z cz fm) (h0 : Heap) (n0 : Nat) (X0 : Ext Z.heap h0) (UG0 : UG Z) (a b : Addr) (cs ds : List Int32) (S1 : SG Z h0 a cs) (S2 : SG Z h0 b ds) :
    Ctr l Z (⟨"hornwright/model/Utf8Order", "compare", "(Ljava/lang/String;Ljava/lang/String;)I"⟩ : MethodName) prog_52_method_2_code 6 (some .int) rmX5 #[(.ref a), (.ref b)] h0 n0 (fun v h => h0 = h ∧ v = some (.int (cmpF (fun j => cs.getD j 0) (fun j => ds.getD j 0) cs.length ds.length (min cs.length ds.length) 0))) := by
  have hw := G.1
  have hl1 := S1.len
  have hl2 := S2.len
  refine Ctr.of (n1 := n0) #[.val (.ref a), .val (.ref b), .unset, .unset, .unset, .unset] (plainFor_of_name pn6) (fun m => by first | (simp [entryFrame, mkF, argsToLocals, Value.category, maxLocals]; done) | rfl) ?_
  intro p e s m below meth c C
  refine g_aloadN C d4_0 (v := (.ref a)) rfl rfl (q := 1) rfl ?_
  refine g_callV C (W := 0) (argsL := []) (rest := []) (a := a) d4_1 (wd23 hw) (wd24 hw) (wd26 hw) (wd25 hw) (by decide) (nf_of C (wd26 hw)) S1.exa (Ctr.bk (c_lenG l Z a0 G cz fm LG0 h0 n0 X0 a cs S1) C (wd27 hw) (wd6 hw) (by decide) (by decide)) (by decide) (by decide) rfl (lenOf pd18 rfl) rfl rfl (q := 4) rfl (fun v1 h1 hQ1 => ?_)
  obtain ⟨rfl, rfl⟩ := hQ1
  refine ⟨[(.int (Int32.ofNat cs.length))], rfl, ?_⟩
  refine g_aloadN C d4_4 (v := (.ref b)) rfl rfl (q := 5) rfl ?_
  refine g_callV C (W := 1) (argsL := []) (rest := [(.int (Int32.ofNat cs.length))]) (a := b) d4_5 (wd23 hw) (wd24 hw) (wd26 hw) (wd25 hw) (by decide) (nf_of C (wd26 hw)) S2.exa (Ctr.bk (c_lenG l Z a0 G cz fm LG0 h0 n0 X0 b ds S2) C (wd27 hw) (wd6 hw) (by decide) (by decide)) (by decide) (by decide) rfl (lenOf pd18 rfl) rfl rfl (q := 8) rfl (fun v1 h1 hQ1 => ?_)
  obtain ⟨rfl, rfl⟩ := hQ1
  refine ⟨[(.int (Int32.ofNat ds.length)), (.int (Int32.ofNat cs.length))], rfl, ?_⟩
  refine g_callS C (W := 0) (argsL := [(.int (Int32.ofNat cs.length)), (.int (Int32.ofNat ds.length))]) (rest := []) d4_8 (wd36 hw) (wd37 hw) (wd38 hw) (wd39 hw) (by decide) (Ctr.bk (c_min l Z a0 G cs.length ds.length hl1 hl2 h0 n0) C (wd39 hw) (wd38 hw) (by decide) (by decide)) (by decide) (by decide) rfl (lenOf pd19 rfl) rfl rfl (q := 11) rfl (fun v1 h1 hQ1 => ?_)
  obtain ⟨rfl, rfl⟩ := hQ1
  refine ⟨[(.int (Int32.ofNat (min cs.length ds.length)))], rfl, ?_⟩
  refine g_istoreN C d4_11 (L' := #[.val (.ref a), .val (.ref b), .val (.int (Int32.ofNat (min cs.length ds.length))), .unset, .unset, .unset]) rfl (q := 12) rfl ?_
  refine g_iconst C d4_12 (z := (0 : Int32)) rfl (q := 13) rfl ?_
  refine g_istoreN C d4_13 (L' := #[.val (.ref a), .val (.ref b), .val (.int (Int32.ofNat (min cs.length ds.length))), .val (.int (0 : Int32)), .unset, .unset]) rfl (q := 14) rfl ?_
  exact loopC l Z a0 G cz fm LG0 h0 n0 X0 UG0 a b cs ds S1 S2 C (min cs.length ds.length) 0 _ _ (by omega) (by omega) (Or.inl rfl) (Or.inl rfl)
set_option maxRecDepth 65536 in
set_option maxHeartbeats 40000000 in
theorem c_mk (l : Launch) (Z : State) (a0 : Array Value) (G : Gl Z a0) (cz : Int32) (fm : Value) (LG0 : LG Z cz fm) (UG0 : UG Z) (K : Nat) (hK : K < 3) (x0 x1 : Int32) (hx0 : CHR x0) (hx1 : CHR x1) (h0 : Heap) (n0 : Nat) (Z0 : n0 ≤ h0.size) (X0 : Ext Z.heap h0) :
    CtrW l Z (⟨"hornwright/model/Utf8OrderComparePinLaw", "mk", "(ICC)Ljava/lang/String;"⟩ : MethodName) method_3_code 4 (some (.object "java/lang/String")) rmMk #[(.int (Int32.ofNat K)), (.int x0), (.int x1)] h0 n0 (fun vm => LE Z vm h0) (fun v vm h => ∃ t, v = some (.ref t) ∧ Keep h0 h [] ∧ SG Z h t (ml K x0 x1) ∧ LE Z vm h) := by
  have hw := G.1
  have wS : ∀ a ∈ Bundle.stringAtoms, a.before a0 Z = true := fun d hd => hw d ((by decide +kernel : ∀ d ∈ Bundle.stringAtoms, d ∈ tables_1) d hd)
  refine CtrW.of (n1 := h0.size) #[.val (.int (Int32.ofNat K)), .val (.int x0), .val (.int x1), .unset] (plainFor_of_name pn4) (fun m => by first | (simp [entryFrame, mkF, argsToLocals, Value.category, maxLocals]; done) | rfl) ?_
  intro p e s0 vm0 m below meth c C hs0 hP0 Sw
  have C : Cx p (s0.setVm vm0) m meth c Z "hornwright/model/Utf8OrderComparePinLaw" "mk" method_3_code 4 (some (.object "java/lang/String")) := C
  obtain rfl | rfl | rfl : K = 0 ∨ K = 1 ∨ K = 2 := by omega
  ·
    refine g_iloadN C d1_0 (v := (Int32.ofNat 0)) rfl (q := 1) rfl ?_
    refine g_if_ne C d1_1 (q' := 7) (q := 4) (by decide) (by decide) rfl (fun hy => absurd rfl hy) (fun hn => ?_)
    rcases hP0 with I0 | ⟨ae, Lt, Se⟩
    ·
      refine g_ldcS C Sw d1_4 (wd5 hw) wS (fun b cl hb => by rw [hs0]; exact X0.2 b cl hb) (by rw [hs0]; exact Nat.le_refl _) I0 (by simp) G.2.1 G.2.2 (vs := []) (z := 0) ⟨by simp, rfl⟩ (by decide) rfl (nn := 0) (by decide) (by decide) (by decide) (by decide) (q := 6) rfl (fun ae vm1 h1 be kb Ee C1 Sw1 I1 Lt Ea Fco Fva Ar => ?_)
      have Se : SL Z h1 ae [] := ⟨be, Ea, Fco, Fva, (Av.of_arv (N := 0) Ar rfl).congr (fun j hj => absurd hj (Nat.not_lt_zero _)), by simp⟩
      exact g_areturnW C1 Sw1 d1_6 rfl rfl Z0 (by decide) (by decide) (fun vm' hW => ⟨ae, rfl, Ext.kp Ee [], Or.inl Se, LE.warm (s0 := s0) (Or.inr ⟨ae, Lt, Se⟩) hW⟩)
    ·
      refine g_ldcA C d1_4 (wd5 hw) (show Lit (s0.setVm vm0) _ _ ae from Lt) (q := 6) rfl ?_
      exact g_areturnW C Sw d1_6 rfl rfl Z0 (by decide) (by decide) (fun vm' hW => ⟨ae, rfl, Keep.refl _ _, Or.inl Se, LE.warm (s0 := s0) (Or.inr ⟨ae, Lt, Se⟩) hW⟩)
  ·
    refine g_iloadN C d1_0 (v := (Int32.ofNat 1)) rfl (q := 1) rfl ?_
    refine g_if_ne C d1_1 (q' := 7) (q := 4) (by decide) (by decide) rfl (fun hy => ?_) (fun hn => absurd hn (by decide))
    refine g_iloadN C d1_7 (v := (Int32.ofNat 1)) rfl (q := 8) rfl ?_
    refine g_iconst C d1_8 (z := (1 : Int32)) rfl (q := 9) rfl ?_
    refine g_icmp_ne C d1_9 (q' := 17) (q := 12) (by decide) (by decide) rfl (fun hy => absurd rfl hy) (fun hn => ?_)
    refine g_iloadN C d1_12 (v := x0) rfl (q := 13) rfl ?_
    refine g_callS C (W := 0) (argsL := [(.int x0)]) (rest := []) d1_13 (wd44 hw) (wd45 hw) (wd6 hw) (wd46 hw) (by decide) (Ctr.bk (c_valueOf l Z a0 G cz LG0.1 LG0.2.1 UG0 h0 h0.size X0 (Nat.le_refl _) x0 hx0) C (wd46 hw) (wd6 hw) (by decide) (by decide)) (by decide) (by decide) rfl (lenOf pd21 rfl) rfl rfl (q := 16) rfl (fun v1 h1 hQ1 => ?_)
    obtain ⟨t, rfl, gt, K1, S1⟩ := hQ1
    refine ⟨[(.ref t)], rfl, ?_⟩
    exact g_areturnW C (Sw.mono K1.1) d1_16 rfl rfl Z0 (by decide) (by decide) (fun vm' hW => ⟨t, rfl, K1, S1, (LE.warm hP0 hW).keep K1⟩)
  ·
    refine g_iloadN C d1_0 (v := (Int32.ofNat 2)) rfl (q := 1) rfl ?_
    refine g_if_ne C d1_1 (q' := 7) (q := 4) (by decide) (by decide) rfl (fun hy => ?_) (fun hn => absurd hn (by decide))
    refine g_iloadN C d1_7 (v := (Int32.ofNat 2)) rfl (q := 8) rfl ?_
    refine g_iconst C d1_8 (z := (1 : Int32)) rfl (q := 9) rfl ?_
    refine g_icmp_ne C d1_9 (q' := 17) (q := 12) (by decide) (by decide) rfl (fun hy => ?_) (fun hn => absurd hn (by decide))
    refine g_iconst C d1_17 (z := (2 : Int32)) rfl (q := 18) rfl ?_
    refine g_newarray C d1_18 (wd72 hw) (by decide) (cap := 2) (by decide) (by decide) (by decide) (by decide) (q := 20) rfl (fun b h1 k1 q1 E1 A1 => ?_)
    have B : Av Z h1 b .char 2 (fun _ => .int 0) := Av.new A1 (by decide)
    have gb : h0.size ≤ b := by rw [q1]; exact Nat.le_refl _
    refine g_astoreN C d1_20 rfl (L' := #[.val (.int (Int32.ofNat 2)), .val (.int x0), .val (.int x1), .val (.ref b)]) rfl (q := 21) rfl ?_
    refine g_aloadN C d1_21 (v := (.ref b)) rfl rfl (q := 22) rfl ?_
    refine g_iconst C d1_22 (z := (0 : Int32)) rfl (q := 23) rfl ?_
    refine g_iloadN C d1_23 (v := x0) rfl (q := 24) rfl ?_
    refine g_castore C d1_24 (i := 0) B (by decide) rfl gb (q := 25) rfl (fun h2 W2 B => ?_)
    refine g_aloadN C d1_25 (v := (.ref b)) rfl rfl (q := 26) rfl ?_
    refine g_iconst C d1_26 (z := (1 : Int32)) rfl (q := 27) rfl ?_
    refine g_iloadN C d1_27 (v := x1) rfl (q := 28) rfl ?_
    refine g_castore C d1_28 (i := 1) B (by decide) rfl gb (q := 29) rfl (fun h3 W3 B => ?_)
    have K3 : Keep h0 h3 [] := ((Ext.kp E1 []).wr W2 (Or.inr gb)).wr W3 (Or.inr gb)
    refine g_new C d1_29 (wd73 hw) (wd7 hw) (wd6 hw) (by decide) (by decide) (q := 32) rfl (fun t h4 q4 E4 A4 D4 => ?_)
    refine g_dup C d1_32 rfl (q := 33) rfl ?_
    refine g_aloadN C d1_33 (v := (.ref b)) rfl rfl (q := 34) rfl ?_
    have A4' : Av Z h4 b .char 2 (fun j => .int ([x0, x1].getD j 0)) := (B.ext E4).congr (fun j hj => by
      obtain rfl | rfl : j = 0 ∨ j = 1 := by omega
      all_goals simp [chr_nar hx0, chr_nar hx1])
    have K4 : Keep h0 h4 [] := K3.trans (Ext.kp E4 []) (by simp)
    have hcc : ∀ c ∈ [x0, x1], CHR c := fun c hc => by
      simp only [List.mem_cons, List.not_mem_nil, or_false] at hc
      rcases hc with rfl | rfl
      · exact hx0
      · exact hx1
    refine g_callI C (W := 1) (argsL := [(.ref b)]) (rest := [(.ref t)]) (a := t) d1_34 rfl (wd74 hw) (wd75 hw) (wd76 hw) (by decide) (Ctr.bk (c_new1 l Z a0 G UG0 h4 h0.size (Ext.keep X0 K4 (by simp)) K4.1 b [x0, x1] 2 rfl (by decide) hcc A4' cz LG0.1 LG0.2.1 (by decide) t (by rw [q4]; exact K3.1) A4 _ _ (D4 (Or.inr (wd9 hw)) (ty := .array .byte) (by decide)) (D4 (Or.inr (wd10 hw)) (ty := .byte) (by decide))) C (wd76 hw) (wd6 hw) (by decide) (by decide)) (by decide) (by decide) rfl (lenOf pd22 rfl) rfl rfl (q := 37) rfl (fun v5 h5 hQ5 => ?_)
    obtain ⟨rfl, K5, S5⟩ := hQ5
    refine ⟨[(.ref t)], rfl, ?_⟩
    have KK : Keep h0 h5 [] := K4.trans K5 (fun x hx => Or.inr (by cases List.mem_singleton.mp hx; rw [q4]; exact K3.1))
    exact g_areturnW C (Sw.mono KK.1) d1_37 rfl rfl Z0 (by decide) (by decide) (fun vm' hW => ⟨t, rfl, KK, S5, (LE.warm hP0 hW).keep KK⟩)
theorem rem_nat {x : Int32} {n : Nat} (h0 : 0 ≤ x.toInt) (hn : 0 < n) (h31 : n < 2 ^ 31) : ∃ K, K < n ∧ x % Int32.ofNat n = Int32.ofNat K := by
  obtain ⟨m, hm⟩ := Int.eq_ofNat_of_zero_le h0
  refine ⟨m % n, Nat.mod_lt _ hn, ?_⟩
  apply Int32.toInt_inj.mp
  have hm2 : m % n < n := Nat.mod_lt _ hn
  rw [Int32.toInt_mod, Int32.toInt_ofNat_of_lt h31, Int32.toInt_ofNat_of_lt (by omega), Int.tmod_eq_emod_of_nonneg h0, hm]
  rfl
theorem and_nn (x : Int32) : 0 ≤ (x &&& (2147483647 : Int32)).toInt := by
  have h : (x &&& 2147483647).toBitVec.toNat ≤ 2147483647 := by
    simp only [Int32.toBitVec_and, BitVec.toNat_and]
    exact Nat.and_le_right
  show 0 ≤ (x &&& 2147483647).toBitVec.toInt
  rw [BitVec.toInt_eq_toNat_of_lt (by omega)]
  omega
def tri (a b : Nat) : Int32 := if a < b then -1 else if a = b then 0 else 1
def rankN (k : Nat) : Nat := if k < 57344 then (if k < 55296 then k else k + 8192) else k - 2048
def keyN (k : Nat) : Nat := if k < 55296 then k else if 57343 < k then k else k + 65536
theorem lt_iff {a b : Nat} (ha : a < 2 ^ 31) (hb : b < 2 ^ 31) : Int32.ofNat a < Int32.ofNat b ↔ a < b := by
  rw [Int32.lt_iff_toInt_lt, Int32.toInt_ofNat_of_lt ha, Int32.toInt_ofNat_of_lt hb]; omega
theorem eq_iff {a b : Nat} (ha : a < 2 ^ 31) (hb : b < 2 ^ 31) : Int32.ofNat a = Int32.ofNat b ↔ a = b := ⟨of_inj ha hb, fun e => by rw [e]⟩
theorem icF_nat {a b : Nat} (ha : a < 2 ^ 31) (hb : b < 2 ^ 31) : icF (Int32.ofNat a) (Int32.ofNat b) = tri a b := by
  unfold icF tri
  simp only [lt_iff ha hb, eq_iff ha hb]
theorem sub_nat {a b : Nat} (ha : a < 2 ^ 30) (hb : b < 2 ^ 30) : (Int32.ofNat a - Int32.ofNat b).toInt = (a : Int) - b := by
  rw [Int32.toInt_sub, Int32.toInt_ofNat_of_lt (by omega), Int32.toInt_ofNat_of_lt (by omega), Int.bmod_eq_of_le (by omega) (by omega)]
theorem sgF_nat {a b : Nat} (ha : a < 2 ^ 30) (hb : b < 2 ^ 30) : sgF (Int32.ofNat a - Int32.ofNat b) = tri a b := by
  unfold sgF tri
  have e0 : (0 : Int32).toInt = 0 := rfl
  have e1 : Int32.ofNat a - Int32.ofNat b < 0 ↔ a < b := by rw [Int32.lt_iff_toInt_lt, sub_nat ha hb, e0]; omega
  have e2 : 0 < Int32.ofNat a - Int32.ofNat b ↔ b < a := by rw [Int32.lt_iff_toInt_lt, sub_nat ha hb, e0]; omega
  simp only [e1, e2]
  by_cases h1 : a < b
  · simp [h1]
  · by_cases h2 : a = b
    · simp [h2]
    · simp [h1, h2, show b < a by omega]
theorem sgF_tri (a b : Nat) : sgF (tri a b) = tri a b := by
  unfold tri; split
  · decide
  · split <;> decide
theorem tri_swap (a b : Nat) : tri b a = -(tri a b) := by
  unfold tri
  by_cases h1 : a < b
  · simp [h1, show ¬ b < a by omega, show ¬ b = a by omega]
  · by_cases h2 : a = b
    · subst h2; simp
    · simp [h1, h2, show b < a by omega]
theorem add_ofNat (k n : Nat) : Int32.ofNat k + Int32.ofNat n = Int32.ofNat (k + n) := (Int32.ofNat_add k n).symm
theorem rank_nat {k : Nat} (hk : k < 65536) : rankF (Int32.ofNat k) = Int32.ofNat (rankN k) := by
  unfold rankF rankN
  have e1 : Int32.ofNat k < 57344 ↔ k < 57344 := lt_iff (b := 57344) (by omega) (by decide)
  have e2 : Int32.ofNat k < 55296 ↔ k < 55296 := lt_iff (b := 55296) (by omega) (by decide)
  simp only [e1, e2]
  by_cases h1 : k < 57344
  · rw [if_pos h1, if_pos h1]
    by_cases h2 : k < 55296
    · rw [if_pos h2, if_pos h2]
    · rw [if_neg h2, if_neg h2]; exact add_ofNat k 8192
  · rw [if_neg h1, if_neg h1]
    apply Int32.toInt_inj.mp
    have := sub_nat (a := k) (b := 2048) (by omega) (by decide)
    rw [Int32.toInt_ofNat_of_lt (by omega)]
    refine Eq.trans this ?_
    omega
theorem key_nat {k : Nat} (hk : k < 65536) : keyF (Int32.ofNat k) = Int32.ofNat (keyN k) := by
  unfold keyF keyN
  have e1 : Int32.ofNat k < 55296 ↔ k < 55296 := lt_iff (b := 55296) (by omega) (by decide)
  have e2 : 57343 < Int32.ofNat k ↔ 57343 < k := lt_iff (a := 57343) (by decide) (by omega)
  simp only [e1, e2]
  by_cases h1 : k < 55296
  · rw [if_pos h1, if_pos h1]
  · rw [if_neg h1, if_neg h1]
    by_cases h2 : 57343 < k
    · rw [if_pos h2, if_pos h2]
    · rw [if_neg h2, if_neg h2]; exact add_ofNat k 65536
theorem rk {j k : Nat} (hj : j < 65536) (hk : k < 65536) : tri (rankN j) (rankN k) = tri (keyN j) (keyN k) := by
  have e1 : rankN j < rankN k ↔ keyN j < keyN k := by unfold rankN keyN; (repeat' split) <;> omega
  have e2 : rankN j = rankN k ↔ keyN j = keyN k := by unfold rankN keyN; (repeat' split) <;> omega
  unfold tri; simp only [e1, e2]
theorem rank_lt {k : Nat} (hk : k < 65536) : rankN k < 2 ^ 20 := by unfold rankN; (repeat' split) <;> omega
theorem key_lt {k : Nat} (hk : k < 65536) : keyN k < 2 ^ 20 := by unfold keyN; (repeat' split) <;> omega
theorem stepF {x y : Int32} (hx : CHR x) (hy : CHR y) : icF (rankF x) (rankF y) = sgF (keyF x - keyF y) ∧ icF (rankF y) (rankF x) = -(sgF (keyF x - keyF y)) ∧ sgF (icF (rankF x) (rankF y)) = icF (rankF x) (rankF y) ∧ sgF (icF (rankF y) (rankF x)) = icF (rankF y) (rankF x) := by
  obtain ⟨j, hj, rfl⟩ := chr_of hx
  obtain ⟨k, hk, rfl⟩ := chr_of hy
  have r1 := rank_lt hj; have r2 := rank_lt hk; have r3 := key_lt hj; have r4 := key_lt hk
  rw [rank_nat hj, rank_nat hk, key_nat hj, key_nat hk, icF_nat (by omega) (by omega), icF_nat (by omega) (by omega), sgF_nat (by omega) (by omega), rk hj hk, rk hk hj]
  exact ⟨rfl, tri_swap _ _, sgF_tri _ _, sgF_tri _ _⟩
theorem stepN : ∀ n m : Fin 3, sgF (icF (Int32.ofNat n.val) (Int32.ofNat m.val)) = sgF (Int32.ofNat n.val - Int32.ofNat m.val) ∧ sgF (icF (Int32.ofNat m.val) (Int32.ofNat n.val)) = -(sgF (Int32.ofNat n.val - Int32.ofNat m.val)) := by unfold sgF icF; decide +kernel
def G2 (cs ds : List Int32) : Int32 := cmpF (fun j => cs.getD j 0) (fun j => ds.getD j 0) cs.length ds.length (min cs.length ds.length) 0
theorem plain (K M : Nat) (hK : K < 3) (hM : M < 3) (x0 x1 y0 y1 : Int32) (hx0 : CHR x0) (hx1 : CHR x1) (hy0 : CHR y0) (hy1 : CHR y1) : sgF (G2 (ml K x0 x1) (ml M y0 y1)) = exF (Int32.ofNat K) x0 x1 (Int32.ofNat M) y0 y1 ∧ sgF (G2 (ml M y0 y1) (ml K x0 x1)) = -(exF (Int32.ofNat K) x0 x1 (Int32.ofNat M) y0 y1) := by
  have sn := stepN ⟨K, hK⟩ ⟨M, hM⟩
  obtain ⟨a1, a2, a3, a4⟩ := stepF hx0 hy0
  obtain ⟨b1, b2, b3, b4⟩ := stepF hx1 hy1
  obtain rfl | rfl | rfl : K = 0 ∨ K = 1 ∨ K = 2 := by omega
  · obtain rfl | rfl | rfl : M = 0 ∨ M = 1 ∨ M = 2 := by omega
    ·
      have g1 : G2 (ml 0 x0 x1) (ml 0 y0 y1) = icF (Int32.ofNat 0) (Int32.ofNat 0) := rfl
      have g2 : G2 (ml 0 y0 y1) (ml 0 x0 x1) = icF (Int32.ofNat 0) (Int32.ofNat 0) := rfl
      have g3 : exF (Int32.ofNat 0) x0 x1 (Int32.ofNat 0) y0 y1 = sgF (Int32.ofNat 0 - Int32.ofNat 0) := by unfold exF; rw [if_pos (by decide)]
      rw [g1, g2, g3]
      exact sn
    ·
      have g1 : G2 (ml 0 x0 x1) (ml 1 y0 y1) = icF (Int32.ofNat 0) (Int32.ofNat 1) := rfl
      have g2 : G2 (ml 1 y0 y1) (ml 0 x0 x1) = icF (Int32.ofNat 1) (Int32.ofNat 0) := rfl
      have g3 : exF (Int32.ofNat 0) x0 x1 (Int32.ofNat 1) y0 y1 = sgF (Int32.ofNat 0 - Int32.ofNat 1) := by unfold exF; rw [if_pos (by decide)]
      rw [g1, g2, g3]
      exact sn
    ·
      have g1 : G2 (ml 0 x0 x1) (ml 2 y0 y1) = icF (Int32.ofNat 0) (Int32.ofNat 2) := rfl
      have g2 : G2 (ml 2 y0 y1) (ml 0 x0 x1) = icF (Int32.ofNat 2) (Int32.ofNat 0) := rfl
      have g3 : exF (Int32.ofNat 0) x0 x1 (Int32.ofNat 2) y0 y1 = sgF (Int32.ofNat 0 - Int32.ofNat 2) := by unfold exF; rw [if_pos (by decide)]
      rw [g1, g2, g3]
      exact sn
  · obtain rfl | rfl | rfl : M = 0 ∨ M = 1 ∨ M = 2 := by omega
    ·
      have g1 : G2 (ml 1 x0 x1) (ml 0 y0 y1) = icF (Int32.ofNat 1) (Int32.ofNat 0) := rfl
      have g2 : G2 (ml 0 y0 y1) (ml 1 x0 x1) = icF (Int32.ofNat 0) (Int32.ofNat 1) := rfl
      have g3 : exF (Int32.ofNat 1) x0 x1 (Int32.ofNat 0) y0 y1 = sgF (Int32.ofNat 1 - Int32.ofNat 0) := by unfold exF; rw [if_neg (by decide), if_pos (by decide)]
      rw [g1, g2, g3]
      exact sn
    ·
      by_cases e0 : x0 = y0
      ·
        have g1 : G2 (ml 1 x0 x1) (ml 1 y0 y1) = icF (Int32.ofNat 1) (Int32.ofNat 1) := by show (if x0 = y0 then cmpF (fun j => ([x0] : List Int32).getD j 0) (fun j => ([y0] : List Int32).getD j 0) 1 1 0 1 else icF (rankF x0) (rankF y0)) = _; rw [if_pos e0]; rfl
        have g2 : G2 (ml 1 y0 y1) (ml 1 x0 x1) = icF (Int32.ofNat 1) (Int32.ofNat 1) := by show (if y0 = x0 then cmpF (fun j => ([y0] : List Int32).getD j 0) (fun j => ([x0] : List Int32).getD j 0) 1 1 0 1 else icF (rankF y0) (rankF x0)) = _; rw [if_pos e0.symm]; rfl
        have g3 : exF (Int32.ofNat 1) x0 x1 (Int32.ofNat 1) y0 y1 = sgF (Int32.ofNat 1 - Int32.ofNat 1) := by unfold exF; rw [if_neg (by decide), if_neg (by decide), if_pos e0, if_pos (by decide)]
        rw [g1, g2, g3]
        exact sn
      ·
        have g1 : G2 (ml 1 x0 x1) (ml 1 y0 y1) = icF (rankF x0) (rankF y0) := by show (if x0 = y0 then cmpF (fun j => ([x0] : List Int32).getD j 0) (fun j => ([y0] : List Int32).getD j 0) 1 1 0 1 else icF (rankF x0) (rankF y0)) = _; rw [if_neg e0]
        have g2 : G2 (ml 1 y0 y1) (ml 1 x0 x1) = icF (rankF y0) (rankF x0) := by show (if y0 = x0 then cmpF (fun j => ([y0] : List Int32).getD j 0) (fun j => ([x0] : List Int32).getD j 0) 1 1 0 1 else icF (rankF y0) (rankF x0)) = _; rw [if_neg (fun q => e0 q.symm)]
        have g3 : exF (Int32.ofNat 1) x0 x1 (Int32.ofNat 1) y0 y1 = sgF (keyF x0 - keyF y0) := by unfold exF; rw [if_neg (by decide), if_neg (by decide), if_neg e0]
        rw [g1, g2, g3]
        exact ⟨a3.trans a1, a4.trans a2⟩
    ·
      by_cases e0 : x0 = y0
      ·
        have g1 : G2 (ml 1 x0 x1) (ml 2 y0 y1) = icF (Int32.ofNat 1) (Int32.ofNat 2) := by show (if x0 = y0 then cmpF (fun j => ([x0] : List Int32).getD j 0) (fun j => ([y0, y1] : List Int32).getD j 0) 1 2 0 1 else icF (rankF x0) (rankF y0)) = _; rw [if_pos e0]; rfl
        have g2 : G2 (ml 2 y0 y1) (ml 1 x0 x1) = icF (Int32.ofNat 2) (Int32.ofNat 1) := by show (if y0 = x0 then cmpF (fun j => ([y0, y1] : List Int32).getD j 0) (fun j => ([x0] : List Int32).getD j 0) 2 1 0 1 else icF (rankF y0) (rankF x0)) = _; rw [if_pos e0.symm]; rfl
        have g3 : exF (Int32.ofNat 1) x0 x1 (Int32.ofNat 2) y0 y1 = sgF (Int32.ofNat 1 - Int32.ofNat 2) := by unfold exF; rw [if_neg (by decide), if_neg (by decide), if_pos e0, if_pos (by decide)]
        rw [g1, g2, g3]
        exact sn
      ·
        have g1 : G2 (ml 1 x0 x1) (ml 2 y0 y1) = icF (rankF x0) (rankF y0) := by show (if x0 = y0 then cmpF (fun j => ([x0] : List Int32).getD j 0) (fun j => ([y0, y1] : List Int32).getD j 0) 1 2 0 1 else icF (rankF x0) (rankF y0)) = _; rw [if_neg e0]
        have g2 : G2 (ml 2 y0 y1) (ml 1 x0 x1) = icF (rankF y0) (rankF x0) := by show (if y0 = x0 then cmpF (fun j => ([y0, y1] : List Int32).getD j 0) (fun j => ([x0] : List Int32).getD j 0) 2 1 0 1 else icF (rankF y0) (rankF x0)) = _; rw [if_neg (fun q => e0 q.symm)]
        have g3 : exF (Int32.ofNat 1) x0 x1 (Int32.ofNat 2) y0 y1 = sgF (keyF x0 - keyF y0) := by unfold exF; rw [if_neg (by decide), if_neg (by decide), if_neg e0]
        rw [g1, g2, g3]
        exact ⟨a3.trans a1, a4.trans a2⟩
  · obtain rfl | rfl | rfl : M = 0 ∨ M = 1 ∨ M = 2 := by omega
    ·
      have g1 : G2 (ml 2 x0 x1) (ml 0 y0 y1) = icF (Int32.ofNat 2) (Int32.ofNat 0) := rfl
      have g2 : G2 (ml 0 y0 y1) (ml 2 x0 x1) = icF (Int32.ofNat 0) (Int32.ofNat 2) := rfl
      have g3 : exF (Int32.ofNat 2) x0 x1 (Int32.ofNat 0) y0 y1 = sgF (Int32.ofNat 2 - Int32.ofNat 0) := by unfold exF; rw [if_neg (by decide), if_pos (by decide)]
      rw [g1, g2, g3]
      exact sn
    ·
      by_cases e0 : x0 = y0
      ·
        have g1 : G2 (ml 2 x0 x1) (ml 1 y0 y1) = icF (Int32.ofNat 2) (Int32.ofNat 1) := by show (if x0 = y0 then cmpF (fun j => ([x0, x1] : List Int32).getD j 0) (fun j => ([y0] : List Int32).getD j 0) 2 1 0 1 else icF (rankF x0) (rankF y0)) = _; rw [if_pos e0]; rfl
        have g2 : G2 (ml 1 y0 y1) (ml 2 x0 x1) = icF (Int32.ofNat 1) (Int32.ofNat 2) := by show (if y0 = x0 then cmpF (fun j => ([y0] : List Int32).getD j 0) (fun j => ([x0, x1] : List Int32).getD j 0) 1 2 0 1 else icF (rankF y0) (rankF x0)) = _; rw [if_pos e0.symm]; rfl
        have g3 : exF (Int32.ofNat 2) x0 x1 (Int32.ofNat 1) y0 y1 = sgF (Int32.ofNat 2 - Int32.ofNat 1) := by unfold exF; rw [if_neg (by decide), if_neg (by decide), if_pos e0, if_neg (by decide), if_pos (by decide)]
        rw [g1, g2, g3]
        exact sn
      ·
        have g1 : G2 (ml 2 x0 x1) (ml 1 y0 y1) = icF (rankF x0) (rankF y0) := by show (if x0 = y0 then cmpF (fun j => ([x0, x1] : List Int32).getD j 0) (fun j => ([y0] : List Int32).getD j 0) 2 1 0 1 else icF (rankF x0) (rankF y0)) = _; rw [if_neg e0]
        have g2 : G2 (ml 1 y0 y1) (ml 2 x0 x1) = icF (rankF y0) (rankF x0) := by show (if y0 = x0 then cmpF (fun j => ([y0] : List Int32).getD j 0) (fun j => ([x0, x1] : List Int32).getD j 0) 1 2 0 1 else icF (rankF y0) (rankF x0)) = _; rw [if_neg (fun q => e0 q.symm)]
        have g3 : exF (Int32.ofNat 2) x0 x1 (Int32.ofNat 1) y0 y1 = sgF (keyF x0 - keyF y0) := by unfold exF; rw [if_neg (by decide), if_neg (by decide), if_neg e0]
        rw [g1, g2, g3]
        exact ⟨a3.trans a1, a4.trans a2⟩
    ·
      by_cases e0 : x0 = y0
      ·
        by_cases e1 : x1 = y1
        ·
          have g1 : G2 (ml 2 x0 x1) (ml 2 y0 y1) = icF (Int32.ofNat 2) (Int32.ofNat 2) := by show (if x0 = y0 then cmpF (fun j => ([x0, x1] : List Int32).getD j 0) (fun j => ([y0, y1] : List Int32).getD j 0) 2 2 1 1 else icF (rankF x0) (rankF y0)) = _; rw [if_pos e0]; show (if x1 = y1 then icF (Int32.ofNat 2) (Int32.ofNat 2) else icF (rankF x1) (rankF y1)) = _; rw [if_pos e1]
          have g2 : G2 (ml 2 y0 y1) (ml 2 x0 x1) = icF (Int32.ofNat 2) (Int32.ofNat 2) := by show (if y0 = x0 then cmpF (fun j => ([y0, y1] : List Int32).getD j 0) (fun j => ([x0, x1] : List Int32).getD j 0) 2 2 1 1 else icF (rankF y0) (rankF x0)) = _; rw [if_pos e0.symm]; show (if y1 = x1 then icF (Int32.ofNat 2) (Int32.ofNat 2) else icF (rankF y1) (rankF x1)) = _; rw [if_pos e1.symm]
          have g3 : exF (Int32.ofNat 2) x0 x1 (Int32.ofNat 2) y0 y1 = sgF (Int32.ofNat 2 - Int32.ofNat 2) := by unfold exF; rw [if_neg (by decide), if_neg (by decide), if_pos e0, if_neg (by decide), if_neg (by decide), if_pos e1]
          rw [g1, g2, g3]
          exact sn
        ·
          have g1 : G2 (ml 2 x0 x1) (ml 2 y0 y1) = icF (rankF x1) (rankF y1) := by show (if x0 = y0 then cmpF (fun j => ([x0, x1] : List Int32).getD j 0) (fun j => ([y0, y1] : List Int32).getD j 0) 2 2 1 1 else icF (rankF x0) (rankF y0)) = _; rw [if_pos e0]; show (if x1 = y1 then icF (Int32.ofNat 2) (Int32.ofNat 2) else icF (rankF x1) (rankF y1)) = _; rw [if_neg e1]
          have g2 : G2 (ml 2 y0 y1) (ml 2 x0 x1) = icF (rankF y1) (rankF x1) := by show (if y0 = x0 then cmpF (fun j => ([y0, y1] : List Int32).getD j 0) (fun j => ([x0, x1] : List Int32).getD j 0) 2 2 1 1 else icF (rankF y0) (rankF x0)) = _; rw [if_pos e0.symm]; show (if y1 = x1 then icF (Int32.ofNat 2) (Int32.ofNat 2) else icF (rankF y1) (rankF x1)) = _; rw [if_neg (fun q => e1 q.symm)]
          have g3 : exF (Int32.ofNat 2) x0 x1 (Int32.ofNat 2) y0 y1 = sgF (keyF x1 - keyF y1) := by unfold exF; rw [if_neg (by decide), if_neg (by decide), if_pos e0, if_neg (by decide), if_neg (by decide), if_neg e1]
          rw [g1, g2, g3]
          exact ⟨b3.trans b1, b4.trans b2⟩
      ·
        have g1 : G2 (ml 2 x0 x1) (ml 2 y0 y1) = icF (rankF x0) (rankF y0) := by show (if x0 = y0 then cmpF (fun j => ([x0, x1] : List Int32).getD j 0) (fun j => ([y0, y1] : List Int32).getD j 0) 2 2 1 1 else icF (rankF x0) (rankF y0)) = _; rw [if_neg e0]
        have g2 : G2 (ml 2 y0 y1) (ml 2 x0 x1) = icF (rankF y0) (rankF x0) := by show (if y0 = x0 then cmpF (fun j => ([y0, y1] : List Int32).getD j 0) (fun j => ([x0, x1] : List Int32).getD j 0) 2 2 1 1 else icF (rankF y0) (rankF x0)) = _; rw [if_neg (fun q => e0 q.symm)]
        have g3 : exF (Int32.ofNat 2) x0 x1 (Int32.ofNat 2) y0 y1 = sgF (keyF x0 - keyF y0) := by unfold exF; rw [if_neg (by decide), if_neg (by decide), if_neg e0]
        rw [g1, g2, g3]
        exact ⟨a3.trans a1, a4.trans a2⟩
set_option maxRecDepth 65536 in
set_option maxHeartbeats 40000000 in
theorem tail {p : Program} {e : Env} {s0 : State} {vm0 : Vm} {m : MethodId} {args : Array Value} {below : List Frame} {meth : Method} {c : Code} (l : Launch) (Z : State) (a0 : Array Value) (G : Gl Z a0) (cz : Int32) (fm : Value) (LG0 : LG Z cz fm) (UG0 : UG Z) (hP0 : IB Z vm0 []) (h0 : Heap) (n0 : Nat) (Z0 : n0 ≤ h0.size) (X0 : Ext Z.heap h0) (K M : Nat) (hK : K < 3) (hM : M < 3) (p0 p1 p2 p3 p4 p5 x0 x1 y0 y1 : Int32) (hx0 : CHR x0) (hx1 : CHR x1) (hy0 : CHR y0) (hy1 : CHR y1) (C : Cx p (s0.setVm vm0) m meth c Z "hornwright/model/Utf8OrderComparePinLaw" "law" code 17 (some .boolean)) (Sw : Sn s0 vm0 h0) :
    Go p l e room_1 (s0.setVm vm0) m args below meth c (FinW s0 below room_1 n0 (fun v vm h => v = some (.int 1))) n0 h0 0 0 60 #[.val (.int p0), .val (.int p1), .val (.int p2), .val (.int p3), .val (.int p4), .val (.int p5), .val (.int (Int32.ofNat K)), .val (.int (Int32.ofNat M)), .val (.int x0), .val (.int x1), .val (.int y0), .val (.int y1), .unset, .unset, .unset, .unset, .unset] [] := by
  have hw := G.1
  refine g_iload C at_60 (v := (Int32.ofNat K)) rfl (q := 62) rfl ?_
  refine g_iload C at_62 (v := x0) rfl (q := 64) rfl ?_
  refine g_iload C at_64 (v := x1) rfl (q := 66) rfl ?_
  refine g_callSW C (W := 0) (argsL := [(.int (Int32.ofNat K)), (.int x0), (.int x1)]) (rest := []) Sw at_66 (wd1 hw) (wd2 hw) (wd3 hw) (wd4 hw) (by decide) (c_mk l Z a0 G cz fm LG0 UG0 K hK x0 x1 hx0 hx1 h0 n0 Z0 X0) (by decide) (by decide) (by decide) (by decide) rfl (lenOf pd23 rfl) rfl rfl (q := 69) rfl (fun vm' hW' => Or.inl (IB.warm hP0 hW')) (fun v1 vm1 h1 hQ1 C1 Sw1 hW391 => ?_)
  obtain ⟨a, rfl, K1, S1, L1⟩ := hQ1
  refine ⟨[(.ref a)], rfl, ?_⟩
  have X1 := Ext.keep X0 K1 (by simp)
  have Z1 : n0 ≤ h1.size := Nat.le_trans Z0 K1.1
  refine g_astore C1 at_69 rfl (L' := #[.val (.int p0), .val (.int p1), .val (.int p2), .val (.int p3), .val (.int p4), .val (.int p5), .val (.int (Int32.ofNat K)), .val (.int (Int32.ofNat M)), .val (.int x0), .val (.int x1), .val (.int y0), .val (.int y1), .val (.ref a), .unset, .unset, .unset, .unset]) rfl (q := 71) rfl ?_
  refine g_iload C1 at_71 (v := (Int32.ofNat M)) rfl (q := 73) rfl ?_
  refine g_iload C1 at_73 (v := y0) rfl (q := 75) rfl ?_
  refine g_iload C1 at_75 (v := y1) rfl (q := 77) rfl ?_
  refine g_callSW C1 (W := 0) (argsL := [(.int (Int32.ofNat M)), (.int y0), (.int y1)]) (rest := []) Sw1 at_77 (wd1 hw) (wd2 hw) (wd3 hw) (wd4 hw) (by decide) (c_mk l Z a0 G cz fm LG0 UG0 M hM y0 y1 hy0 hy1 h1 n0 Z1 X1) (by decide) (by decide) (by decide) (by decide) rfl (lenOf pd23 rfl) rfl rfl (q := 80) rfl (fun vm' hW' => LE.warm L1 hW') (fun v2 vm2 h2 hQ2 C2 Sw2 hW392 => ?_)
  obtain ⟨b, rfl, K2, S2, L2⟩ := hQ2
  refine ⟨[(.ref b)], rfl, ?_⟩
  have X2 := Ext.keep X1 K2 (by simp)
  have S1 := S1.keep K2 (by simp)
  obtain ⟨pl1, pl2⟩ := plain K M hK hM x0 x1 y0 y1 hx0 hx1 hy0 hy1
  refine g_astore C2 at_80 rfl (L' := #[.val (.int p0), .val (.int p1), .val (.int p2), .val (.int p3), .val (.int p4), .val (.int p5), .val (.int (Int32.ofNat K)), .val (.int (Int32.ofNat M)), .val (.int x0), .val (.int x1), .val (.int y0), .val (.int y1), .val (.ref a), .val (.ref b), .unset, .unset, .unset]) rfl (q := 82) rfl ?_
  refine g_iload C2 at_82 (v := (Int32.ofNat K)) rfl (q := 84) rfl ?_
  refine g_iload C2 at_84 (v := x0) rfl (q := 86) rfl ?_
  refine g_iload C2 at_86 (v := x1) rfl (q := 88) rfl ?_
  refine g_iload C2 at_88 (v := (Int32.ofNat M)) rfl (q := 90) rfl ?_
  refine g_iload C2 at_90 (v := y0) rfl (q := 92) rfl ?_
  refine g_iload C2 at_92 (v := y1) rfl (q := 94) rfl ?_
  refine g_callS C2 (W := 0) (argsL := [(.int (Int32.ofNat K)), (.int x0), (.int x1), (.int (Int32.ofNat M)), (.int y0), (.int y1)]) (rest := []) at_94 (wd13 hw) (wd14 hw) (wd3 hw) (wd15 hw) (by decide) (Ctr.bk (c_expect l Z a0 G _ _ _ _ _ _ h2 n0) C2 (wd15 hw) (wd3 hw) (by decide) (by decide)) (by decide) (by decide) rfl (lenOf pd24 rfl) rfl rfl (q := 97) rfl (fun v3 h3 hQ3 => ?_)
  obtain ⟨rfl, rfl⟩ := hQ3
  refine ⟨[(.int (exF (Int32.ofNat K) x0 x1 (Int32.ofNat M) y0 y1))], rfl, ?_⟩
  refine g_istore C2 at_97 (L' := #[.val (.int p0), .val (.int p1), .val (.int p2), .val (.int p3), .val (.int p4), .val (.int p5), .val (.int (Int32.ofNat K)), .val (.int (Int32.ofNat M)), .val (.int x0), .val (.int x1), .val (.int y0), .val (.int y1), .val (.ref a), .val (.ref b), .val (.int (exF (Int32.ofNat K) x0 x1 (Int32.ofNat M) y0 y1)), .unset, .unset]) rfl (q := 99) rfl ?_
  refine g_aload C2 at_99 (v := (.ref a)) rfl rfl (q := 101) rfl ?_
  refine g_aload C2 at_101 (v := (.ref b)) rfl rfl (q := 103) rfl ?_
  refine g_callS C2 (W := 0) (argsL := [(.ref a), (.ref b)]) (rest := []) at_103 (wd19 hw) (wd20 hw) (wd21 hw) (wd22 hw) (by decide) (Ctr.bk (c_cmp l Z a0 G cz fm LG0 h2 n0 X2 UG0 a b _ _ S1 S2) C2 (wd22 hw) (wd21 hw) (by decide) (by decide)) (by decide) (by decide) rfl (lenOf pd25 rfl) rfl rfl (q := 106) rfl (fun v3 h3 hQ3 => ?_)
  obtain ⟨rfl, rfl⟩ := hQ3
  refine ⟨[(.int (G2 (ml K x0 x1) (ml M y0 y1)))], rfl, ?_⟩
  refine g_istore C2 at_106 (L' := #[.val (.int p0), .val (.int p1), .val (.int p2), .val (.int p3), .val (.int p4), .val (.int p5), .val (.int (Int32.ofNat K)), .val (.int (Int32.ofNat M)), .val (.int x0), .val (.int x1), .val (.int y0), .val (.int y1), .val (.ref a), .val (.ref b), .val (.int (exF (Int32.ofNat K) x0 x1 (Int32.ofNat M) y0 y1)), .val (.int (G2 (ml K x0 x1) (ml M y0 y1))), .unset]) rfl (q := 108) rfl ?_
  refine g_aload C2 at_108 (v := (.ref b)) rfl rfl (q := 110) rfl ?_
  refine g_aload C2 at_110 (v := (.ref a)) rfl rfl (q := 112) rfl ?_
  refine g_callS C2 (W := 0) (argsL := [(.ref b), (.ref a)]) (rest := []) at_112 (wd19 hw) (wd20 hw) (wd21 hw) (wd22 hw) (by decide) (Ctr.bk (c_cmp l Z a0 G cz fm LG0 h2 n0 X2 UG0 b a _ _ S2 S1) C2 (wd22 hw) (wd21 hw) (by decide) (by decide)) (by decide) (by decide) rfl (lenOf pd25 rfl) rfl rfl (q := 115) rfl (fun v3 h3 hQ3 => ?_)
  obtain ⟨rfl, rfl⟩ := hQ3
  refine ⟨[(.int (G2 (ml M y0 y1) (ml K x0 x1)))], rfl, ?_⟩
  refine g_istore C2 at_115 (L' := #[.val (.int p0), .val (.int p1), .val (.int p2), .val (.int p3), .val (.int p4), .val (.int p5), .val (.int (Int32.ofNat K)), .val (.int (Int32.ofNat M)), .val (.int x0), .val (.int x1), .val (.int y0), .val (.int y1), .val (.ref a), .val (.ref b), .val (.int (exF (Int32.ofNat K) x0 x1 (Int32.ofNat M) y0 y1)), .val (.int (G2 (ml K x0 x1) (ml M y0 y1))), .val (.int (G2 (ml M y0 y1) (ml K x0 x1)))]) rfl (q := 117) rfl ?_
  refine g_iload C2 at_117 (v := (G2 (ml K x0 x1) (ml M y0 y1))) rfl (q := 119) rfl ?_
  refine g_callS C2 (W := 0) (argsL := [(.int (G2 (ml K x0 x1) (ml M y0 y1)))]) (rest := []) at_119 (wd16 hw) (wd17 hw) (wd3 hw) (wd18 hw) (by decide) (Ctr.bk (c_sign l Z a0 G _ h2 n0) C2 (wd18 hw) (wd3 hw) (by decide) (by decide)) (by decide) (by decide) rfl (lenOf pd5 rfl) rfl rfl (q := 122) rfl (fun v3 h3 hQ3 => ?_)
  obtain ⟨rfl, rfl⟩ := hQ3
  refine ⟨[(.int (sgF (G2 (ml K x0 x1) (ml M y0 y1))))], rfl, ?_⟩
  refine g_iload C2 at_122 (v := (exF (Int32.ofNat K) x0 x1 (Int32.ofNat M) y0 y1)) rfl (q := 124) rfl ?_
  refine g_icmp_ne C2 at_124 (q' := 142) (q := 127) (by decide) (by decide) rfl (fun hy => absurd pl1 hy) (fun hn => ?_)
  refine g_iload C2 at_127 (v := (G2 (ml M y0 y1) (ml K x0 x1))) rfl (q := 129) rfl ?_
  refine g_callS C2 (W := 0) (argsL := [(.int (G2 (ml M y0 y1) (ml K x0 x1)))]) (rest := []) at_129 (wd16 hw) (wd17 hw) (wd3 hw) (wd18 hw) (by decide) (Ctr.bk (c_sign l Z a0 G _ h2 n0) C2 (wd18 hw) (wd3 hw) (by decide) (by decide)) (by decide) (by decide) rfl (lenOf pd5 rfl) rfl rfl (q := 132) rfl (fun v3 h3 hQ3 => ?_)
  obtain ⟨rfl, rfl⟩ := hQ3
  refine ⟨[(.int (sgF (G2 (ml M y0 y1) (ml K x0 x1))))], rfl, ?_⟩
  refine g_iload C2 at_132 (v := (exF (Int32.ofNat K) x0 x1 (Int32.ofNat M) y0 y1)) rfl (q := 134) rfl ?_
  refine g_ineg C2 at_134 (q := 135) rfl ?_
  refine g_icmp_ne C2 at_135 (q' := 142) (q := 138) (by decide) (by decide) rfl (fun hy => absurd pl2 hy) (fun hn => ?_)
  refine g_iconst C2 at_138 (z := (1 : Int32)) rfl (q := 139) rfl ?_
  refine g_goto C2 at_139 (q := 143) (by decide) (by decide) ?_
  exact g_nreturnW C2 Sw2 at_143 (by simp) (z := 1) rfl (Nat.le_refl _) (by decide) (by decide) (fun vm' hW => rfl)
set_option maxRecDepth 65536 in
set_option maxHeartbeats 40000000 in
theorem c_law (l : Launch) (Z : State) (a0 : Array Value) (G : Gl Z a0) (cz : Int32) (fm : Value) (LG0 : LG Z cz fm) (UG0 : UG Z) (p0 p1 p2 p3 p4 p5 : Int32) (h0 : Heap) (n0 : Nat) (Z0 : n0 ≤ h0.size) (X0 : Ext Z.heap h0) :
    CtrW l Z Jvm.Pilot.@@N@@.x code maxLocals ret room_1 #[(.int p0), (.int p1), (.int p2), (.int p3), (.int p4), (.int p5)] h0 n0 (fun vm => IB Z vm []) (fun v vm h => v = some (.int 1)) := by
  have hw := G.1
  refine CtrW.of (n1 := n0) #[.val (.int p0), .val (.int p1), .val (.int p2), .val (.int p3), .val (.int p4), .val (.int p5), .unset, .unset, .unset, .unset, .unset, .unset, .unset, .unset, .unset, .unset, .unset] (plainFor_of_name pn4) (fun m => by first | (simp [entryFrame, mkF, argsToLocals, Value.category, maxLocals]; done) | rfl) ?_
  intro p e s0 vm0 m below meth c C hs0 hP0 Sw
  have C : Cx p (s0.setVm vm0) m meth c Z "hornwright/model/Utf8OrderComparePinLaw" "law" code 17 (some .boolean) := C
  refine g_iloadN C at_0 (v := p0) rfl (q := 1) rfl ?_
  refine g_ldcInt C at_1 (wd0 hw) (q := 3) rfl ?_
  refine g_iand C at_3 (q := 4) rfl ?_
  refine g_iconst C at_4 (z := (3 : Int32)) rfl (q := 5) rfl ?_
  refine g_irem C at_5 (by decide) (q := 6) rfl ?_
  obtain ⟨K, hK, eK⟩ : ∃ K, K < 3 ∧ ((p0 &&& (2147483647 : Int32)) % (3 : Int32)) = Int32.ofNat K := rem_nat (n := 3) (and_nn _) (by decide) (by decide)
  rw [eK]
  refine g_istore C at_6 (L' := #[.val (.int p0), .val (.int p1), .val (.int p2), .val (.int p3), .val (.int p4), .val (.int p5), .val (.int (Int32.ofNat K)), .unset, .unset, .unset, .unset, .unset, .unset, .unset, .unset, .unset, .unset]) rfl (q := 8) rfl ?_
  refine g_iloadN C at_8 (v := p0) rfl (q := 9) rfl ?_
  refine g_bipush C at_9 (z := (8 : Int32)) rfl (q := 11) rfl ?_
  refine g_iushr C at_11 (q := 12) rfl ?_
  refine g_ldcInt C at_12 (wd0 hw) (q := 14) rfl ?_
  refine g_iand C at_14 (q := 15) rfl ?_
  refine g_iconst C at_15 (z := (3 : Int32)) rfl (q := 16) rfl ?_
  refine g_irem C at_16 (by decide) (q := 17) rfl ?_
  obtain ⟨M, hM, eM⟩ : ∃ K, K < 3 ∧ (((XT.ushr p0 (8 : Int32)) &&& (2147483647 : Int32)) % (3 : Int32)) = Int32.ofNat K := rem_nat (n := 3) (and_nn _) (by decide) (by decide)
  rw [eM]
  refine g_istore C at_17 (L' := #[.val (.int p0), .val (.int p1), .val (.int p2), .val (.int p3), .val (.int p4), .val (.int p5), .val (.int (Int32.ofNat K)), .val (.int (Int32.ofNat M)), .unset, .unset, .unset, .unset, .unset, .unset, .unset, .unset, .unset]) rfl (q := 19) rfl ?_
  refine g_iloadN C at_19 (v := p1) rfl (q := 20) rfl ?_
  refine g_i2c C at_20 (q := 21) rfl ?_
  obtain ⟨x0, ex0, hx0⟩ : ∃ y, y = (p1.toUInt32.toUInt16.toUInt32.toInt32) ∧ CHR y := ⟨_, rfl, i2c_chr _⟩
  rw [← ex0]
  refine g_istore C at_21 (L' := #[.val (.int p0), .val (.int p1), .val (.int p2), .val (.int p3), .val (.int p4), .val (.int p5), .val (.int (Int32.ofNat K)), .val (.int (Int32.ofNat M)), .val (.int x0), .unset, .unset, .unset, .unset, .unset, .unset, .unset, .unset]) rfl (q := 23) rfl ?_
  refine g_iloadN C at_23 (v := p2) rfl (q := 24) rfl ?_
  refine g_i2c C at_24 (q := 25) rfl ?_
  obtain ⟨x1, ex1, hx1⟩ : ∃ y, y = (p2.toUInt32.toUInt16.toUInt32.toInt32) ∧ CHR y := ⟨_, rfl, i2c_chr _⟩
  rw [← ex1]
  refine g_istore C at_25 (L' := #[.val (.int p0), .val (.int p1), .val (.int p2), .val (.int p3), .val (.int p4), .val (.int p5), .val (.int (Int32.ofNat K)), .val (.int (Int32.ofNat M)), .val (.int x0), .val (.int x1), .unset, .unset, .unset, .unset, .unset, .unset, .unset]) rfl (q := 27) rfl ?_
  refine g_iload C at_27 (v := p5) rfl (q := 29) rfl ?_
  refine g_iconst C at_29 (z := (1 : Int32)) rfl (q := 30) rfl ?_
  refine g_iand C at_30 (q := 31) rfl ?_
  refine g_if_eq C at_31 (q' := 39) (q := 34) (by decide) (by decide) rfl (fun hy => ?_) (fun hn => ?_)
  ·
    refine g_iloadN C at_39 (v := p3) rfl (q := 40) rfl ?_
    refine g_i2c C at_40 (q := 41) rfl ?_
    obtain ⟨y0, ey0, hy0⟩ : ∃ y, y = (p3.toUInt32.toUInt16.toUInt32.toInt32) ∧ CHR y := ⟨_, rfl, i2c_chr _⟩
    rw [← ey0]
    refine g_istore C at_41 (L' := #[.val (.int p0), .val (.int p1), .val (.int p2), .val (.int p3), .val (.int p4), .val (.int p5), .val (.int (Int32.ofNat K)), .val (.int (Int32.ofNat M)), .val (.int x0), .val (.int x1), .val (.int y0), .unset, .unset, .unset, .unset, .unset, .unset]) rfl (q := 43) rfl ?_
    refine g_iload C at_43 (v := p5) rfl (q := 45) rfl ?_
    refine g_iconst C at_45 (z := (2 : Int32)) rfl (q := 46) rfl ?_
    refine g_iand C at_46 (q := 47) rfl ?_
    refine g_if_eq C at_47 (q' := 55) (q := 50) (by decide) (by decide) rfl (fun hy => ?_) (fun hn => ?_)
    ·
      refine g_iload C at_55 (v := p4) rfl (q := 57) rfl ?_
      refine g_i2c C at_57 (q := 58) rfl ?_
      obtain ⟨y1, ey1, hy1⟩ : ∃ y, y = (p4.toUInt32.toUInt16.toUInt32.toInt32) ∧ CHR y := ⟨_, rfl, i2c_chr _⟩
      rw [← ey1]
      refine g_istore C at_58 (L' := #[.val (.int p0), .val (.int p1), .val (.int p2), .val (.int p3), .val (.int p4), .val (.int p5), .val (.int (Int32.ofNat K)), .val (.int (Int32.ofNat M)), .val (.int x0), .val (.int x1), .val (.int y0), .val (.int y1), .unset, .unset, .unset, .unset, .unset]) rfl (q := 60) rfl ?_
      exact tail l Z a0 G cz fm LG0 UG0 hP0 h0 n0 Z0 X0 K M hK hM p0 p1 p2 p3 p4 p5 x0 x1 y0 y1 hx0 hx1 hy0 hy1 C Sw
    ·
      refine g_iload C at_50 (v := x1) rfl (q := 52) rfl ?_
      refine g_goto C at_52 (q := 58) (by decide) (by decide) ?_
      refine g_istore C at_58 (L' := #[.val (.int p0), .val (.int p1), .val (.int p2), .val (.int p3), .val (.int p4), .val (.int p5), .val (.int (Int32.ofNat K)), .val (.int (Int32.ofNat M)), .val (.int x0), .val (.int x1), .val (.int y0), .val (.int x1), .unset, .unset, .unset, .unset, .unset]) rfl (q := 60) rfl ?_
      exact tail l Z a0 G cz fm LG0 UG0 hP0 h0 n0 Z0 X0 K M hK hM p0 p1 p2 p3 p4 p5 x0 x1 y0 x1 hx0 hx1 hy0 hx1 C Sw
  ·
    refine g_iload C at_34 (v := x0) rfl (q := 36) rfl ?_
    refine g_goto C at_36 (q := 41) (by decide) (by decide) ?_
    refine g_istore C at_41 (L' := #[.val (.int p0), .val (.int p1), .val (.int p2), .val (.int p3), .val (.int p4), .val (.int p5), .val (.int (Int32.ofNat K)), .val (.int (Int32.ofNat M)), .val (.int x0), .val (.int x1), .val (.int x0), .unset, .unset, .unset, .unset, .unset, .unset]) rfl (q := 43) rfl ?_
    refine g_iload C at_43 (v := p5) rfl (q := 45) rfl ?_
    refine g_iconst C at_45 (z := (2 : Int32)) rfl (q := 46) rfl ?_
    refine g_iand C at_46 (q := 47) rfl ?_
    refine g_if_eq C at_47 (q' := 55) (q := 50) (by decide) (by decide) rfl (fun hy => ?_) (fun hn => ?_)
    ·
      refine g_iload C at_55 (v := p4) rfl (q := 57) rfl ?_
      refine g_i2c C at_57 (q := 58) rfl ?_
      obtain ⟨y1, ey1, hy1⟩ : ∃ y, y = (p4.toUInt32.toUInt16.toUInt32.toInt32) ∧ CHR y := ⟨_, rfl, i2c_chr _⟩
      rw [← ey1]
      refine g_istore C at_58 (L' := #[.val (.int p0), .val (.int p1), .val (.int p2), .val (.int p3), .val (.int p4), .val (.int p5), .val (.int (Int32.ofNat K)), .val (.int (Int32.ofNat M)), .val (.int x0), .val (.int x1), .val (.int x0), .val (.int y1), .unset, .unset, .unset, .unset, .unset]) rfl (q := 60) rfl ?_
      exact tail l Z a0 G cz fm LG0 UG0 hP0 h0 n0 Z0 X0 K M hK hM p0 p1 p2 p3 p4 p5 x0 x1 x0 y1 hx0 hx1 hx0 hy1 C Sw
    ·
      refine g_iload C at_50 (v := x1) rfl (q := 52) rfl ?_
      refine g_goto C at_52 (q := 58) (by decide) (by decide) ?_
      refine g_istore C at_58 (L' := #[.val (.int p0), .val (.int p1), .val (.int p2), .val (.int p3), .val (.int p4), .val (.int p5), .val (.int (Int32.ofNat K)), .val (.int (Int32.ofNat M)), .val (.int x0), .val (.int x1), .val (.int x0), .val (.int x1), .unset, .unset, .unset, .unset, .unset]) rfl (q := 60) rfl ?_
      exact tail l Z a0 G cz fm LG0 UG0 hP0 h0 n0 Z0 X0 K M hK hM p0 p1 p2 p3 p4 p5 x0 x1 x0 x1 hx0 hx1 hx0 hx1 C Sw
theorem eq_int' {t : Term} {n : Int32} {args : Array Value} {s : State} (h : (Cond.eq t (.int n)).before args s = true) : t.eval args s none [] s = some (.int n) := by
  have h := Cond.before_iff.mp h
  simp only [Cond.value, Term.int_eval] at h
  cases e : t.eval args s none [] s with
  | none => simp [e] at h
  | some v => cases v <;> simp [e] at h ⊢; exact h
theorem field_eval {t : Term} {C f d : String} {args : Array Value} {s : State} {a : Addr} (e : t.eval args s none [] s = some (.ref a)) : (Term.field t C f d).eval args s none [] s = s.fieldOf? a C f d := by
  simp [Term.eval, e]
set_option maxRecDepth 65536 in
set_option maxHeartbeats 40000000 in
theorem comes_1 {Post : Tables → Env → Array Value → State → Outcome → State → Prop} (hpost : ∀ tb e args s v u, (limb_1_1.after args s (.returned v) u = true ∧ limb_1_2.after args s (.returned v) u = true ∧ True) → ReturnedEndW s (.returned v) u (Jvm.fieldLocs frame_1_writes args s ++ Jvm.arrayLocs frame_1_arrays args s ++ Jvm.staticLocs frame_1_statics s) 32 1152 → Post tb e args s (.returned v) u) :
    ArmFor flags0 classFile x code maxLocals ret World_1 tables_1 room_1 Calls_1 rest_1 Pre_1 Post := by
  intro l hfl _ _ p e ha hc hk s m args below hf hA hF happ hP
  obtain ⟨hcalls, hrest, hpre⟩ := hP
  obtain ⟨-, -, -, hnamed, -, -, -, hat⟩ := (Spec.applies_iff hf).mp happ
  obtain ⟨hg, hn⟩ := and_e (Cond.before_iff.mp (show (Jvm.Cond.and given_1 narrow_1).before args s = true from hpre))
  obtain ⟨hcount, hg0⟩ := and_e hg
  obtain ⟨ha0, hg1⟩ := and_e hg0
  obtain ⟨ha1, hg2⟩ := and_e hg1
  obtain ⟨ha2, hg3⟩ := and_e hg2
  obtain ⟨ha3, hg4⟩ := and_e hg3
  obtain ⟨ha4, hg5⟩ := and_e hg4
  have ha5 := hg5
  obtain ⟨w0, w1, w2, w3, w4, w5, rfl⟩ : ∃ w0 w1 w2 w3 w4 w5 : Value, args = #[w0, w1, w2, w3, w4, w5] := by
    have hs : args.size = 6 := by simpa [Cond.value, given_1] using hcount
    obtain ⟨L⟩ := args
    match L, hs with
    | [w0, w1, w2, w3, w4, w5], _ => exact ⟨w0, w1, w2, w3, w4, w5, rfl⟩
  have hw := fun d (hd : d ∈ tables_1) => atoms_spec (ws := Jvm.Cond.code x code maxLocals ret :: tables_1) hat d (List.mem_cons_of_mem _ hd)
  obtain ⟨hsets, hown0⟩ := atoms_of _ (rest_1_c_eq ▸ (show rest_1_c.before _ s = true from hrest))
  have hfit : Fit s := fun {y c} hc i hi => by
    obtain ⟨ha, rfl⟩ := Array.getElem?_eq_some_iff.mp hc
    have q := List.all_eq_true.mp ((Array.all_eq_true_iff_forall_mem.mp hF) _ (Array.getElem_mem ha)) i (List.mem_range.mpr hi)
    simpa [Array.getElem?_eq_getElem hi] using q
  obtain ⟨x0, ea0⟩ := is_v ha0
  obtain rfl : w0 = (.int x0) := Option.some.inj ea0
  obtain ⟨x1, ea1⟩ := is_v ha1
  obtain rfl : w1 = (.int x1) := Option.some.inj ea1
  obtain ⟨x2, ea2⟩ := is_v ha2
  obtain rfl : w2 = (.int x2) := Option.some.inj ea2
  obtain ⟨x3, ea3⟩ := is_v ha3
  obtain rfl : w3 = (.int x3) := Option.some.inj ea3
  obtain ⟨x4, ea4⟩ := is_v ha4
  obtain rfl : w4 = (.int x4) := Option.some.inj ea4
  obtain ⟨x5, ea5⟩ := is_v ha5
  obtain rfl : w5 = (.int x5) := Option.some.inj ea5
  have n5' := hsets _ (List.mem_of_getElem? (i := 2) rfl)
  have n5 := not_v (Cond.before_iff.mp n5')
  obtain ⟨cz, e10⟩ := is_v (Cond.before_iff.mp (hsets _ (List.mem_of_getElem? (i := 1) rfl)))
  have S0 : Sta s s.heap "java/lang/String" "COMPACT_STRINGS" "Z" (.int cz) := Sta.start e10 (Or.inl (hsets _ (List.mem_of_getElem? (i := 0) rfl)))
  have hcz : ¬ (cz = (0 : Int32)) := gotF (Cond.eq_ints e10 (Term.int_eval (0))) n5
  obtain ⟨fm, e11, hfm⟩ := isR_v (Cond.before_iff.mp (hsets _ (List.mem_of_getElem? (i := 8) rfl)))
  have S1 : Sta s s.heap "jdk/internal/util/Preconditions" "SIOOBE_FORMATTER" "Ljava/util/function/BiFunction;" fm := Sta.start e11 (Or.inl (hsets _ (List.mem_of_getElem? (i := 7) rfl)))
  have UG0 : UG s := ⟨Sta.start (eq_int' (hsets _ (List.mem_of_getElem? (i := 12) rfl))) (Or.inl (hsets _ (List.mem_of_getElem? (i := 11) rfl))), Sta.start (eq_int' (hsets _ (List.mem_of_getElem? (i := 15) rfl))) (Or.inl (hsets _ (List.mem_of_getElem? (i := 14) rfl))), Sta.start (eq_int' (hsets _ (List.mem_of_getElem? (i := 18) rfl))) (Or.inl (hsets _ (List.mem_of_getElem? (i := 17) rfl)))⟩
  have hk28 := hcalls.1 ("hornwright/model/Utf8OrderComparePinLaw", 28) (by simp [consts_1])
  obtain ⟨n, o, h1, h2, h3, _, L, rfl, ⟨rfl, N⟩, hq⟩ := c_law l s _ ⟨hw, hk28, n5'⟩ cz fm ⟨S0, hcz, S1, hfm⟩ UG0 x0 x1 x2 x3 x4 x5 s.heap s.heap.size (Nat.le_refl _) (Ext.rfl' _) p e ha hc hk s m _ below hf (app_less hf ((Spec.applies_iff_loose hf).mp happ).1) ⟨rfl, State.Warmed39.refl s, rfl, IB.start⟩ trivial
  refine ⟨n, _, h1, h2, h3, hpost _ _ _ _ _ _ ⟨Cond.after_iff.mpr rfl, Cond.after_iff.mpr (eq_i res_at (Term.int_eval (1)) rfl), trivial⟩ ⟨hq.1, hq.2.1, hq.2.2.1, (hq.2.2.2.sift fun y hy => Or.inr (N y hy)).mono (by decide) (by decide)⟩⟩
theorem main_1_1 : Claimed_1_1 := comes_1 fun _ _ _ _ _ _ h hF => ⟨h.1, hF⟩
theorem main_1_2 : Claimed_1_2 := comes_1 fun _ _ _ _ _ _ h hF => ⟨h.2.1, hF⟩
end Jvm.Pilot.@@N@@
namespace Jvm.Pilot.@@N@@
open Jvm Jvm.ClassFile Sem Op Lib Jvm.Free Jvm.Stand Jvm.Pilot.@@N@@.Jvm.D
/-! MADE BY PROGRAM (witnessworld.py) out of the Statement's table words and the real class files: 23 classes; the members and pool entries that the words name. The judged class is class 1, her method 1. -/
namespace start1
open Jvm.ClassFile
def u (s : String) : CpInfo := .utf8 (stringToUtf16 s)
/-- a pool by its gaps: so many unusable entries, then the entry; so many at the end -/
def gap : Nat → List CpInfo → List CpInfo
  | 0, r => r
  | n + 1, r => .unusable :: gap n r
def poolList (es : List (Nat × CpInfo)) (last : Nat) : List CpInfo := es.foldr (fun e r => gap e.1 (e.2 :: r)) (gap last [])
def pool (es : List (Nat × CpInfo)) (last : Nat) : Array CpInfo := ⟨poolList es last⟩
def fileOf (pool : Array CpInfo) (this : Nat) (attrs : Array Attribute := #[]) (ms : Array MethodInfo := #[]) (fl : Nat := 33) (sup : Nat := 0) (ifs : Array Nat := #[]) (fds : Array FieldInfo := #[]) : ClassFile where
  minorVersion := 0
  majorVersion := 65
  constantPool := pool
  accessFlags := fl
  thisClass := this
  superClass := sup
  interfaces := ifs
  fields := fds
  methods := ms
  attributes := attrs
def plain (name : String) (sup : Option ClassId) : Class where
  name := name
  kind := .ordinary
  loader := none
  accessFlags := 33
  super := sup
  interfaces := #[]
  cf := none
  fields := #[]
  methods := #[]
  instanceTypes := #[]
  staticTypes := #[]
  resolved := #[]
  callSites := []
  init := .initialized
  statics := none
  mirror := none

def pool0 : Array CpInfo := pool [(5, u "<init>"), (0, u "()V"), (1, .class_ 10), (1, u "java/lang/Object")] 113

def k0c0 : Code := { maxStack := 0, maxLocals := 1, code := object_method_1_code, exceptionTable := #[], attributes := #[] }
def k0m0 : Method := { name := "<init>", desc := "()V", sig := { parameters := [], returnType := none }, accessFlags := 1, code := some k0c0 }
/-- java/lang/Object -/
def k0 : Class := { plain "java/lang/Object" none with
  accessFlags := 33
  interfaces := #[]
  cf := some (fileOf pool0 8 #[] #[{ accessFlags := 1, nameIndex := 5, descriptorIndex := 6, attributes := #[] }] 33 0 #[] #[])
  fields := #[]
  methods := #[k0m0]
  instanceTypes := #[]
  staticTypes := #[]
  resolved := Array.replicate 124 none
  statics := none }

def pool1 : Array CpInfo := pool [(2, .class_ 4), (1, u "java/lang/Object"), (0, u "<init>"), (0, u "()V"), (0, .integer 2147483647), (0, .methodref 9 10), (0, .class_ 11), (0, .nameAndType 12 13), (0, u "hornwright/model/Utf8OrderComparePinLaw"), (0, u "mk"), (0, u "(ICC)Ljava/lang/String;"), (0, .methodref 9 15), (0, .nameAndType 16 17), (0, u "expect"), (0, u "(ICCICC)I"), (0, .methodref 19 20), (0, .class_ 21), (0, .nameAndType 22 23), (0, u "hornwright/model/Utf8Order"), (0, u "compare"), (0, u "(Ljava/lang/String;Ljava/lang/String;)I"), (0, .methodref 9 25), (0, .nameAndType 26 27), (0, u "sign"), (0, u "(I)I"), (0, .string 29), (0, u ""), (0, .methodref 31 32), (0, .class_ 33), (0, .nameAndType 34 35), (0, u "java/lang/String"), (0, u "valueOf"), (0, u "(C)Ljava/lang/String;"), (0, .methodref 31 37), (0, .nameAndType 5 38), (0, u "([C)V"), (0, .integer 55296), (0, .integer 57343), (0, .integer 65536), (0, .methodref 9 43), (0, .nameAndType 44 45), (0, u "key"), (0, u "(C)I"), (2, u "law"), (0, u "(IIIIII)Z")] 3

def k1m0 : Method := { name := "<init>", desc := "()V", sig := { parameters := [], returnType := none }, accessFlags := 2, code := none }
def k1c1 : Code := { maxStack := 6, maxLocals := 17, code := code, exceptionTable := #[], attributes := #[] }
def k1m1 : Method := { name := "law", desc := "(IIIIII)Z", sig := { parameters := [.int, .int, .int, .int, .int, .int], returnType := some .boolean }, accessFlags := 9, code := some k1c1 }
def k1c2 : Code := { maxStack := 3, maxLocals := 4, code := method_3_code, exceptionTable := #[], attributes := #[] }
def k1m2 : Method := { name := "mk", desc := "(ICC)Ljava/lang/String;", sig := { parameters := [.int, .char, .char], returnType := some (.object "java/lang/String") }, accessFlags := 10, code := some k1c2 }
def k1c3 : Code := { maxStack := 2, maxLocals := 1, code := method_4_code, exceptionTable := #[], attributes := #[] }
def k1m3 : Method := { name := "key", desc := "(C)I", sig := { parameters := [.char], returnType := some .int }, accessFlags := 10, code := some k1c3 }
def k1c4 : Code := { maxStack := 1, maxLocals := 1, code := method_5_code, exceptionTable := #[], attributes := #[] }
def k1m4 : Method := { name := "sign", desc := "(I)I", sig := { parameters := [.int], returnType := some .int }, accessFlags := 10, code := some k1c4 }
def k1c5 : Code := { maxStack := 2, maxLocals := 6, code := method_6_code, exceptionTable := #[], attributes := #[] }
def k1m5 : Method := { name := "expect", desc := "(ICCICC)I", sig := { parameters := [.int, .char, .char, .int, .char, .char], returnType := some .int }, accessFlags := 10, code := some k1c5 }
/-- hornwright/model/Utf8OrderComparePinLaw -/
def k1 : Class := { plain "hornwright/model/Utf8OrderComparePinLaw" (some 0) with
  accessFlags := 49
  interfaces := #[]
  cf := some (fileOf pool1 9 #[] #[{ accessFlags := 2, nameIndex := 5, descriptorIndex := 6, attributes := #[] }, { accessFlags := 9, nameIndex := 48, descriptorIndex := 49, attributes := #[] }, { accessFlags := 10, nameIndex := 12, descriptorIndex := 13, attributes := #[] }, { accessFlags := 10, nameIndex := 44, descriptorIndex := 45, attributes := #[] }, { accessFlags := 10, nameIndex := 26, descriptorIndex := 27, attributes := #[] }, { accessFlags := 10, nameIndex := 16, descriptorIndex := 17, attributes := #[] }] 49 2 #[] #[])
  fields := #[]
  methods := #[k1m0, k1m1, k1m2, k1m3, k1m4, k1m5]
  instanceTypes := #[]
  staticTypes := #[]
  resolved := Array.replicate 53 none
  statics := none }

def pool2 : Array CpInfo := pool [(1, .class_ 2), (0, u "java/io/Serializable"), (0, .class_ 4), (0, u "java/lang/Object")] 2

/-- java/io/Serializable -/
def k2 : Class := { plain "java/io/Serializable" (some 0) with
  accessFlags := 1537
  interfaces := #[]
  cf := some (fileOf pool2 1 #[] #[] 1537 3 #[] #[])
  fields := #[]
  methods := #[]
  instanceTypes := #[]
  staticTypes := #[]
  resolved := Array.replicate 7 none
  statics := none }

def pool3 : Array CpInfo := pool [(1, .class_ 2), (0, u "java/lang/Comparable"), (0, .class_ 4), (0, u "java/lang/Object")] 7

/-- java/lang/Comparable -/
def k3 : Class := { plain "java/lang/Comparable" (some 0) with
  accessFlags := 1537
  interfaces := #[]
  cf := some (fileOf pool3 1 #[] #[] 1537 3 #[] #[])
  fields := #[]
  methods := #[]
  instanceTypes := #[]
  staticTypes := #[]
  resolved := Array.replicate 12 none
  statics := none }

def pool4 : Array CpInfo := pool [(2, .class_ 4), (1, u "java/lang/CharSequence"), (42, .class_ 48), (0, u "java/lang/CharSequence$1CodePointIterator"), (10, .class_ 60), (0, u "java/lang/CharSequence$1CharIterator"), (5, .class_ 67), (0, u "java/lang/Object")] 63

/-- java/lang/CharSequence -/
def k4 : Class := { plain "java/lang/CharSequence" (some 0) with
  accessFlags := 1537
  interfaces := #[]
  cf := some (fileOf pool4 2 #[.nestMembers #[47, 59]] #[] 1537 66 #[] #[])
  fields := #[]
  methods := #[]
  instanceTypes := #[]
  staticTypes := #[]
  resolved := Array.replicate 131 none
  statics := none }

def pool5 : Array CpInfo := pool [(1, .class_ 2), (0, u "java/lang/constant/Constable"), (0, .class_ 4), (0, u "java/lang/Object")] 6

/-- java/lang/constant/Constable -/
def k5 : Class := { plain "java/lang/constant/Constable" (some 0) with
  accessFlags := 1537
  interfaces := #[]
  cf := some (fileOf pool5 1 #[] #[] 1537 3 #[] #[])
  fields := #[]
  methods := #[]
  instanceTypes := #[]
  staticTypes := #[]
  resolved := Array.replicate 11 none
  statics := none }

def pool6 : Array CpInfo := pool [(1, .class_ 2), (0, u "java/lang/constant/ConstantDesc"), (0, .class_ 4), (0, u "java/lang/Object")] 32

/-- java/lang/constant/ConstantDesc -/
def k6 : Class := { plain "java/lang/constant/ConstantDesc" (some 0) with
  accessFlags := 1537
  interfaces := #[]
  cf := some (fileOf pool6 1 #[] #[] 1537 3 #[] #[])
  fields := #[]
  methods := #[]
  instanceTypes := #[]
  staticTypes := #[]
  resolved := Array.replicate 37 none
  statics := none }

def pool7 : Array CpInfo := pool [(1, .methodref 2 3), (0, .class_ 4), (0, .nameAndType 5 6), (0, u "java/lang/Object"), (0, u "<init>"), (0, u "()V"), (2, .fieldref 10 11), (0, .class_ 12), (0, .nameAndType 13 14), (0, u "java/lang/String"), (0, u "value"), (0, u "[B"), (0, .fieldref 10 16), (0, .nameAndType 17 18), (0, u "coder"), (0, u "B"), (2, u "hash"), (0, u "I"), (2, u "hashIsZero"), (0, u "Z"), (0, .methodref 10 28), (0, .nameAndType 5 29), (0, u "([CIILjava/lang/Void;)V"), (8, .fieldref 10 39), (0, .nameAndType 40 26), (0, u "COMPACT_STRINGS"), (1, .class_ 44), (1, u "java/lang/StringUTF16"), (0, u "compress"), (1, .methodref 42 48), (0, .nameAndType 49 50), (0, u "coderFromArrayLen"), (0, u "([BI)B"), (2, u "toBytes"), (53, .class_ 109), (1, u "java/lang/StringLatin1"), (32, u "()Z"), (34, .methodref 42 178), (0, .nameAndType 45 179), (0, u "([CII)[B"), (29, .methodref 10 210), (0, .nameAndType 5 211), (0, u "([BB)V"), (122, u "()I"), (0, .methodref 10 336), (0, .nameAndType 17 337), (0, u "()B"), (25, u "([BI)C"), (5, u "(C)Z"), (21, u "(II)V"), (35, u "(I)C"), (64, .methodref 10 493), (0, .nameAndType 494 142), (0, u "isLatin1"), (0, .methodref 107 496), (0, .nameAndType 497 363), (0, u "charAt"), (0, .methodref 42 496), (2, u "checkIndex"), (5, u "length"), (67, .class_ 576), (0, u "java/lang/CharSequence"), (22, u "CASE_INSENSITIVE_ORDER"), (0, u "Ljava/util/Comparator;"), (181, u "valueOf"), (0, u "(C)Ljava/lang/String;"), (226, u "([C)V"), (4, .methodref 107 1016), (0, .nameAndType 1017 369), (0, u "canEncode"), (0, .methodref 107 1019), (0, .nameAndType 53 1020), (0, u "(C)[B"), (0, .methodref 42 1019), (31, .fieldref 1054 1055), (0, .class_ 1056), (0, .nameAndType 1057 1058), (0, u "jdk/internal/util/Preconditions"), (0, u "SIOOBE_FORMATTER"), (0, u "Ljava/util/function/BiFunction;"), (0, .methodref 1054 1060), (0, .nameAndType 501 1061), (0, u "(IILjava/util/function/BiFunction;)I"), (39, u "serialPersistentFields"), (0, u "[Ljava/io/ObjectStreamField;"), (0, .class_ 1104), (0, u "java/lang/String$CaseInsensitiveComparator"), (1, .class_ 1107), (0, u "java/io/Serializable"), (0, .class_ 1109), (0, u "java/lang/Comparable"), (0, .class_ 1111), (0, u "java/lang/constant/Constable"), (0, .class_ 1113), (0, u "java/lang/constant/ConstantDesc"), (2, u "serialVersionUID"), (0, u "J"), (3, u "REPL"), (0, u "C"), (2, u "LATIN1"), (1, u "UTF16")] 323

def k7m0 : Method := { name := "<init>", desc := "()V", sig := { parameters := [], returnType := none }, accessFlags := 1, code := none }
def k7c1 : Code := { maxStack := 5, maxLocals := 2, code := jdk_42_method_3_code, exceptionTable := #[], attributes := #[] }
def k7m1 : Method := { name := "<init>", desc := "([C)V", sig := { parameters := [(.array .char)], returnType := none }, accessFlags := 1, code := some k7c1 }
def k7c2 : Code := { maxStack := 2, maxLocals := 1, code := jdk_42_method_54_code, exceptionTable := #[], attributes := #[] }
def k7m2 : Method := { name := "length", desc := "()I", sig := { parameters := [], returnType := some .int }, accessFlags := 1, code := some k7c2 }
def k7c3 : Code := { maxStack := 2, maxLocals := 2, code := jdk_42_method_56_code, exceptionTable := #[], attributes := #[] }
def k7m3 : Method := { name := "charAt", desc := "(I)C", sig := { parameters := [.int], returnType := some .char }, accessFlags := 1, code := some k7c3 }
def k7c4 : Code := { maxStack := 4, maxLocals := 1, code := jdk_42_method_139_code, exceptionTable := #[], attributes := #[] }
def k7m4 : Method := { name := "valueOf", desc := "(C)Ljava/lang/String;", sig := { parameters := [.char], returnType := some (.object "java/lang/String") }, accessFlags := 9, code := some k7c4 }
def k7c5 : Code := { maxStack := 4, maxLocals := 6, code := jdk_42_method_149_code, exceptionTable := #[], attributes := #[] }
def k7m5 : Method := { name := "<init>", desc := "([CIILjava/lang/Void;)V", sig := { parameters := [(.array .char), .int, .int, (.object "java/lang/Void")], returnType := none }, accessFlags := 2, code := some k7c5 }
def k7c6 : Code := { maxStack := 2, maxLocals := 3, code := jdk_42_method_151_code, exceptionTable := #[], attributes := #[] }
def k7m6 : Method := { name := "<init>", desc := "([BB)V", sig := { parameters := [(.array .byte), .byte], returnType := none }, accessFlags := 0, code := some k7c6 }
def k7c7 : Code := { maxStack := 1, maxLocals := 1, code := jdk_42_method_152_code, exceptionTable := #[], attributes := #[] }
def k7m7 : Method := { name := "coder", desc := "()B", sig := { parameters := [], returnType := some .byte }, accessFlags := 0, code := some k7c7 }
def k7c8 : Code := { maxStack := 1, maxLocals := 1, code := jdk_42_method_154_code, exceptionTable := #[], attributes := #[] }
def k7m8 : Method := { name := "isLatin1", desc := "()Z", sig := { parameters := [], returnType := some .boolean }, accessFlags := 0, code := some k7c8 }
def k7c9 : Code := { maxStack := 3, maxLocals := 2, code := jdk_42_method_155_code, exceptionTable := #[], attributes := #[] }
def k7m9 : Method := { name := "checkIndex", desc := "(II)V", sig := { parameters := [.int, .int], returnType := none }, accessFlags := 8, code := some k7c9 }
/-- java/lang/String -/
def k7 : Class := { plain "java/lang/String" (some 0) with
  accessFlags := 49
  interfaces := #[2, 3, 4, 5, 6]
  cf := some (fileOf pool7 10 #[.nestMembers #[1103]] #[{ accessFlags := 1, nameIndex := 5, descriptorIndex := 6, attributes := #[] }, { accessFlags := 1, nameIndex := 5, descriptorIndex := 1010, attributes := #[] }, { accessFlags := 1, nameIndex := 507, descriptorIndex := 334, attributes := #[] }, { accessFlags := 1, nameIndex := 497, descriptorIndex := 427, attributes := #[] }, { accessFlags := 9, nameIndex := 782, descriptorIndex := 783, attributes := #[] }, { accessFlags := 2, nameIndex := 5, descriptorIndex := 29, attributes := #[] }, { accessFlags := 0, nameIndex := 5, descriptorIndex := 211, attributes := #[] }, { accessFlags := 0, nameIndex := 17, descriptorIndex := 337, attributes := #[] }, { accessFlags := 0, nameIndex := 494, descriptorIndex := 142, attributes := #[] }, { accessFlags := 8, nameIndex := 501, descriptorIndex := 391, attributes := #[] }] 49 2 #[1106, 1108, 575, 1110, 1112] #[{ accessFlags := 18, nameIndex := 13, descriptorIndex := 14, attributes := #[] }, { accessFlags := 18, nameIndex := 17, descriptorIndex := 18, attributes := #[] }, { accessFlags := 2, nameIndex := 21, descriptorIndex := 22, attributes := #[] }, { accessFlags := 2, nameIndex := 25, descriptorIndex := 26, attributes := #[] }, { accessFlags := 26, nameIndex := 1116, descriptorIndex := 1117, attributes := #[] }, { accessFlags := 24, nameIndex := 40, descriptorIndex := 26, attributes := #[] }, { accessFlags := 26, nameIndex := 1101, descriptorIndex := 1102, attributes := #[] }, { accessFlags := 26, nameIndex := 1121, descriptorIndex := 1122, attributes := #[] }, { accessFlags := 25, nameIndex := 599, descriptorIndex := 600, attributes := #[] }, { accessFlags := 24, nameIndex := 1125, descriptorIndex := 18, attributes := #[] }, { accessFlags := 24, nameIndex := 1127, descriptorIndex := 18, attributes := #[] }])
  fields := #[{ name := "value", type := (.array .byte), accessFlags := 18, slot := 0, constantValue := 0 }, { name := "coder", type := .byte, accessFlags := 18, slot := 1, constantValue := 0 }, { name := "hash", type := .int, accessFlags := 2, slot := 2, constantValue := 0 }, { name := "hashIsZero", type := .boolean, accessFlags := 2, slot := 3, constantValue := 0 }, { name := "serialVersionUID", type := .long, accessFlags := 26, slot := 0, constantValue := 0 }, { name := "COMPACT_STRINGS", type := .boolean, accessFlags := 24, slot := 1, constantValue := 0 }, { name := "serialPersistentFields", type := (.array (.object "java/io/ObjectStreamField")), accessFlags := 26, slot := 2, constantValue := 0 }, { name := "REPL", type := .char, accessFlags := 26, slot := 3, constantValue := 0 }, { name := "CASE_INSENSITIVE_ORDER", type := (.object "java/util/Comparator"), accessFlags := 25, slot := 4, constantValue := 0 }, { name := "LATIN1", type := .byte, accessFlags := 24, slot := 5, constantValue := 0 }, { name := "UTF16", type := .byte, accessFlags := 24, slot := 6, constantValue := 0 }]
  methods := #[k7m0, k7m1, k7m2, k7m3, k7m4, k7m5, k7m6, k7m7, k7m8, k7m9]
  instanceTypes := #[(.array .byte), .byte, .int, .boolean]
  staticTypes := #[.long, .boolean, (.array (.object "java/io/ObjectStreamField")), .char, (.object "java/util/Comparator"), .byte, .byte]
  resolved := Array.replicate 1451 none
  statics := some 0 }

def pool8 : Array CpInfo := pool [(2, .class_ 4), (1, u "java/lang/Object"), (0, u "<init>"), (0, u "()V"), (0, .methodref 8 9), (0, .class_ 10), (0, .nameAndType 11 12), (0, u "java/lang/String"), (0, u "length"), (0, u "()I"), (0, .methodref 14 15), (0, .class_ 16), (0, .nameAndType 17 18), (0, u "java/lang/Math"), (0, u "min"), (0, u "(II)I"), (0, .methodref 8 20), (0, .nameAndType 21 22), (0, u "charAt"), (0, u "(I)C"), (0, .methodref 24 25), (0, .class_ 26), (0, .nameAndType 27 28), (0, u "hornwright/model/Utf8Order"), (0, u "codePointRank"), (0, u "(C)I"), (0, .methodref 30 31), (0, .class_ 32), (0, .nameAndType 33 18), (0, u "java/lang/Integer"), (0, u "compare"), (0, .integer 57344), (0, .integer 55296), (2, u "(Ljava/lang/String;Ljava/lang/String;)I")] 3

def k8m0 : Method := { name := "<init>", desc := "()V", sig := { parameters := [], returnType := none }, accessFlags := 2, code := none }
def k8c1 : Code := { maxStack := 2, maxLocals := 6, code := prog_52_method_2_code, exceptionTable := #[], attributes := #[] }
def k8m1 : Method := { name := "compare", desc := "(Ljava/lang/String;Ljava/lang/String;)I", sig := { parameters := [(.object "java/lang/String"), (.object "java/lang/String")], returnType := some .int }, accessFlags := 9, code := some k8c1 }
def k8c2 : Code := { maxStack := 2, maxLocals := 1, code := prog_52_method_3_code, exceptionTable := #[], attributes := #[] }
def k8m2 : Method := { name := "codePointRank", desc := "(C)I", sig := { parameters := [.char], returnType := some .int }, accessFlags := 10, code := some k8c2 }
/-- hornwright/model/Utf8Order -/
def k8 : Class := { plain "hornwright/model/Utf8Order" (some 0) with
  accessFlags := 49
  interfaces := #[]
  cf := some (fileOf pool8 24 #[] #[{ accessFlags := 2, nameIndex := 5, descriptorIndex := 6, attributes := #[] }, { accessFlags := 9, nameIndex := 33, descriptorIndex := 38, attributes := #[] }, { accessFlags := 10, nameIndex := 27, descriptorIndex := 28, attributes := #[] }] 49 2 #[] #[])
  fields := #[]
  methods := #[k8m0, k8m1, k8m2]
  instanceTypes := #[]
  staticTypes := #[]
  resolved := Array.replicate 42 none
  statics := none }

def pool9 : Array CpInfo := pool [(1, .class_ 2), (0, u "java/lang/Math"), (1, .class_ 6), (1, u "java/lang/Object"), (0, u "<init>"), (0, u "()V"), (89, .class_ 100), (1, u "java/lang/Math$RandomNumberGeneratorHolder"), (71, u "negativeZeroFloatBits"), (0, u "J"), (2, u "negativeZeroDoubleBits"), (24, u "min"), (43, u "$assertionsDisabled"), (0, u "Z"), (88, u "(II)I"), (2, u "twoToTheDoubleScaleDown"), (0, u "D"), (4, u "twoToTheDoubleScaleUp"), (9, u "E"), (3, u "PI"), (2, u "TAU"), (2, u "DEGREES_TO_RADIANS"), (0, u "RADIANS_TO_DEGREES")] 94

def k9m0 : Method := { name := "<init>", desc := "()V", sig := { parameters := [], returnType := none }, accessFlags := 2, code := none }
def k9c1 : Code := { maxStack := 2, maxLocals := 2, code := jdk_29_method_69_code, exceptionTable := #[], attributes := #[] }
def k9m1 : Method := { name := "min", desc := "(II)I", sig := { parameters := [.int, .int], returnType := some .int }, accessFlags := 9, code := some k9c1 }
/-- java/lang/Math -/
def k9 : Class := { plain "java/lang/Math" (some 0) with
  accessFlags := 49
  interfaces := #[]
  cf := some (fileOf pool9 1 #[.nestMembers #[98]] #[{ accessFlags := 2, nameIndex := 7, descriptorIndex := 8, attributes := #[] }, { accessFlags := 9, nameIndex := 201, descriptorIndex := 335, attributes := #[] }] 49 4 #[] #[{ accessFlags := 25, nameIndex := 354, descriptorIndex := 339, attributes := #[] }, { accessFlags := 25, nameIndex := 358, descriptorIndex := 339, attributes := #[] }, { accessFlags := 25, nameIndex := 361, descriptorIndex := 339, attributes := #[] }, { accessFlags := 26, nameIndex := 364, descriptorIndex := 339, attributes := #[] }, { accessFlags := 26, nameIndex := 365, descriptorIndex := 339, attributes := #[] }, { accessFlags := 26, nameIndex := 172, descriptorIndex := 173, attributes := #[] }, { accessFlags := 26, nameIndex := 176, descriptorIndex := 173, attributes := #[] }, { accessFlags := 8, nameIndex := 344, descriptorIndex := 339, attributes := #[] }, { accessFlags := 8, nameIndex := 338, descriptorIndex := 339, attributes := #[] }, { accessFlags := 4120, nameIndex := 245, descriptorIndex := 246, attributes := #[] }])
  fields := #[{ name := "E", type := .double, accessFlags := 25, slot := 0, constantValue := 0 }, { name := "PI", type := .double, accessFlags := 25, slot := 1, constantValue := 0 }, { name := "TAU", type := .double, accessFlags := 25, slot := 2, constantValue := 0 }, { name := "DEGREES_TO_RADIANS", type := .double, accessFlags := 26, slot := 3, constantValue := 0 }, { name := "RADIANS_TO_DEGREES", type := .double, accessFlags := 26, slot := 4, constantValue := 0 }, { name := "negativeZeroFloatBits", type := .long, accessFlags := 26, slot := 5, constantValue := 0 }, { name := "negativeZeroDoubleBits", type := .long, accessFlags := 26, slot := 6, constantValue := 0 }, { name := "twoToTheDoubleScaleUp", type := .double, accessFlags := 8, slot := 7, constantValue := 0 }, { name := "twoToTheDoubleScaleDown", type := .double, accessFlags := 8, slot := 8, constantValue := 0 }, { name := "$assertionsDisabled", type := .boolean, accessFlags := 4120, slot := 9, constantValue := 0 }]
  methods := #[k9m0, k9m1]
  instanceTypes := #[]
  staticTypes := #[.double, .double, .double, .double, .double, .long, .long, .double, .double, .boolean]
  resolved := Array.replicate 460 none
  statics := none }

def pool10 : Array CpInfo := pool [(2, .class_ 4), (1, u "java/lang/Object"), (0, u "<init>"), (0, u "()V"), (1, .class_ 10), (1, u "java/lang/Number"), (2, .class_ 14), (0, u "java/io/Serializable"), (0, u "serialVersionUID"), (0, u "J")] 20

def k10m0 : Method := { name := "<init>", desc := "()V", sig := { parameters := [], returnType := none }, accessFlags := 1, code := none }
/-- java/lang/Number -/
def k10 : Class := { plain "java/lang/Number" (some 0) with
  accessFlags := 1057
  interfaces := #[2]
  cf := some (fileOf pool10 8 #[] #[{ accessFlags := 1, nameIndex := 5, descriptorIndex := 6, attributes := #[] }] 1057 2 #[13] #[{ accessFlags := 26, nameIndex := 15, descriptorIndex := 16, attributes := #[] }])
  fields := #[{ name := "serialVersionUID", type := .long, accessFlags := 26, slot := 0, constantValue := 0 }]
  methods := #[k10m0]
  instanceTypes := #[]
  staticTypes := #[.long]
  resolved := Array.replicate 37 none
  statics := none }

def pool11 : Array CpInfo := pool [(1, .class_ 2), (0, u "java/lang/Integer"), (16, u "digits"), (0, u "[C"), (39, u "(II)I"), (24, u "DigitOnes"), (0, u "[B"), (2, u "DigitTens"), (99, .class_ 190), (0, u "java/lang/Integer$IntegerCache"), (3, u "I"), (8, .class_ 204), (0, u "java/lang/Number"), (2, u "value"), (53, u "compare"), (40, u "TYPE"), (0, u "Ljava/lang/Class;"), (0, .class_ 305), (0, u "java/lang/Comparable"), (0, .class_ 307), (0, u "java/lang/constant/Constable"), (0, .class_ 309), (0, u "java/lang/constant/ConstantDesc"), (0, u "MIN_VALUE"), (1, u "MAX_VALUE"), (3, u "SIZE"), (1, u "BYTES"), (1, u "serialVersionUID"), (0, u "J")] 131

def k11c0 : Code := { maxStack := 2, maxLocals := 2, code := jdk_33_method_40_code, exceptionTable := #[], attributes := #[] }
def k11m0 : Method := { name := "compare", desc := "(II)I", sig := { parameters := [.int, .int], returnType := some .int }, accessFlags := 9, code := some k11c0 }
/-- java/lang/Integer -/
def k11 : Class := { plain "java/lang/Integer" (some 10) with
  accessFlags := 49
  interfaces := #[3, 5, 6]
  cf := some (fileOf pool11 1 #[.nestMembers #[189]] #[{ accessFlags := 9, nameIndex := 261, descriptorIndex := 60, attributes := #[] }] 49 203 #[304, 306, 308] #[{ accessFlags := 25, nameIndex := 310, descriptorIndex := 194, attributes := #[] }, { accessFlags := 25, nameIndex := 312, descriptorIndex := 194, attributes := #[] }, { accessFlags := 25, nameIndex := 302, descriptorIndex := 303, attributes := #[] }, { accessFlags := 24, nameIndex := 19, descriptorIndex := 20, attributes := #[] }, { accessFlags := 24, nameIndex := 89, descriptorIndex := 86, attributes := #[] }, { accessFlags := 24, nameIndex := 85, descriptorIndex := 86, attributes := #[] }, { accessFlags := 18, nameIndex := 207, descriptorIndex := 194, attributes := #[] }, { accessFlags := 25, nameIndex := 316, descriptorIndex := 194, attributes := #[] }, { accessFlags := 25, nameIndex := 318, descriptorIndex := 194, attributes := #[] }, { accessFlags := 26, nameIndex := 320, descriptorIndex := 321, attributes := #[] }])
  fields := #[{ name := "MIN_VALUE", type := .int, accessFlags := 25, slot := 0, constantValue := 0 }, { name := "MAX_VALUE", type := .int, accessFlags := 25, slot := 1, constantValue := 0 }, { name := "TYPE", type := (.object "java/lang/Class"), accessFlags := 25, slot := 2, constantValue := 0 }, { name := "digits", type := (.array .char), accessFlags := 24, slot := 3, constantValue := 0 }, { name := "DigitTens", type := (.array .byte), accessFlags := 24, slot := 4, constantValue := 0 }, { name := "DigitOnes", type := (.array .byte), accessFlags := 24, slot := 5, constantValue := 0 }, { name := "value", type := .int, accessFlags := 18, slot := 0, constantValue := 0 }, { name := "SIZE", type := .int, accessFlags := 25, slot := 6, constantValue := 0 }, { name := "BYTES", type := .int, accessFlags := 25, slot := 7, constantValue := 0 }, { name := "serialVersionUID", type := .long, accessFlags := 26, slot := 8, constantValue := 0 }]
  methods := #[k11m0]
  instanceTypes := #[.int]
  staticTypes := #[.int, .int, (.object "java/lang/Class"), (.array .char), (.array .byte), (.array .byte), .int, .int, .long]
  resolved := Array.replicate 453 none
  statics := none }

def pool12 : Array CpInfo := pool [(1, .class_ 2), (0, u "java/lang/String"), (1, .class_ 6), (1, u "java/lang/Object"), (0, u "<init>"), (0, u "()V"), (0, .methodref 1 10), (0, .nameAndType 11 12), (0, u "checkIndex"), (0, u "(II)V"), (1, .class_ 16), (1, u "java/lang/StringLatin1"), (36, u "([BI)C"), (36, u "canEncode"), (14, u "(C)Z"), (15, u "$assertionsDisabled"), (0, u "Z"), (98, .class_ 223), (1, u "java/lang/StringLatin1$LinesSpliterator"), (28, u "charAt"), (127, u "toBytes"), (1, u "(C)[B"), (7, .class_ 391), (0, u "java/lang/StringLatin1$CharsSpliterator")] 3

def k12m0 : Method := { name := "<init>", desc := "()V", sig := { parameters := [], returnType := none }, accessFlags := 0, code := none }
def k12c1 : Code := { maxStack := 2, maxLocals := 2, code := jdk_43_method_2_code, exceptionTable := #[], attributes := #[] }
def k12m1 : Method := { name := "charAt", desc := "([BI)C", sig := { parameters := [(.array .byte), .int], returnType := some .char }, accessFlags := 9, code := some k12c1 }
def k12c2 : Code := { maxStack := 2, maxLocals := 1, code := jdk_43_method_3_code, exceptionTable := #[], attributes := #[] }
def k12m2 : Method := { name := "canEncode", desc := "(C)Z", sig := { parameters := [.char], returnType := some .boolean }, accessFlags := 9, code := some k12c2 }
def k12c3 : Code := { maxStack := 4, maxLocals := 1, code := jdk_43_method_46_code, exceptionTable := #[], attributes := #[] }
def k12m3 : Method := { name := "toBytes", desc := "(C)[B", sig := { parameters := [.char], returnType := some (.array .byte) }, accessFlags := 9, code := some k12c3 }
/-- java/lang/StringLatin1 -/
def k12 : Class := { plain "java/lang/StringLatin1" (some 0) with
  accessFlags := 48
  interfaces := #[]
  cf := some (fileOf pool12 14 #[.nestMembers #[390, 221]] #[{ accessFlags := 0, nameIndex := 7, descriptorIndex := 8, attributes := #[] }, { accessFlags := 9, nameIndex := 252, descriptorIndex := 53, attributes := #[] }, { accessFlags := 9, nameIndex := 90, descriptorIndex := 105, attributes := #[] }, { accessFlags := 9, nameIndex := 380, descriptorIndex := 382, attributes := #[] }] 48 4 #[] #[{ accessFlags := 4120, nameIndex := 121, descriptorIndex := 122, attributes := #[] }])
  fields := #[{ name := "$assertionsDisabled", type := .boolean, accessFlags := 4120, slot := 0, constantValue := 0 }]
  methods := #[k12m0, k12m1, k12m2, k12m3]
  instanceTypes := #[]
  staticTypes := #[.boolean]
  resolved := Array.replicate 395 none
  statics := none }

def pool13 : Array CpInfo := pool [(3, .class_ 4), (0, u "java/lang/String"), (1, .class_ 8), (1, u "java/lang/Object"), (0, u "<init>"), (0, u "()V"), (0, .methodref 12 13), (0, .class_ 14), (0, .nameAndType 15 16), (0, u "java/lang/StringUTF16"), (0, u "newBytesLength"), (0, u "(I)I"), (3, .integer 1073741823), (23, .fieldref 12 45), (0, .nameAndType 46 47), (0, u "$assertionsDisabled"), (0, u "Z"), (0, .methodref 12 49), (0, .nameAndType 50 51), (0, u "length"), (0, u "([B)I"), (7, .fieldref 12 60), (0, .nameAndType 61 62), (0, u "HI_BYTE_SHIFT"), (0, u "I"), (0, .fieldref 12 64), (0, .nameAndType 65 62), (0, u "LO_BYTE_SHIFT"), (1, .methodref 12 68), (0, .nameAndType 69 70), (0, u "checkIndex"), (0, u "(I[B)V"), (0, .methodref 12 72), (0, .nameAndType 73 74), (0, u "getChar"), (0, u "([BI)C"), (32, .methodref 12 108), (0, .nameAndType 109 110), (0, u "newBytesFor"), (0, u "(I)[B"), (0, .methodref 12 112), (0, .nameAndType 113 114), (0, u "putChar"), (0, u "([BII)V"), (0, .methodref 12 116), (0, .nameAndType 117 118), (0, u "compress"), (0, u "([CI[BII)I"), (0, .methodref 12 120), (0, .nameAndType 121 122), (0, u "toBytes"), (0, u "([CII)[B"), (138, u "coderFromArrayLen"), (0, u "([BI)B"), (106, .class_ 371), (1, u "java/lang/StringUTF16$LinesSpliterator"), (20, u "charAt"), (21, .methodref 3 415), (0, .nameAndType 69 416), (0, u "(II)V"), (13, u "MAX_LENGTH"), (44, u "(C)[B"), (151, .class_ 628), (0, u "java/lang/StringUTF16$CodePointsSpliterator"), (0, .class_ 630), (0, u "java/lang/StringUTF16$CharsSpliterator")] 4

def k13m0 : Method := { name := "<init>", desc := "()V", sig := { parameters := [], returnType := none }, accessFlags := 0, code := none }
def k13c1 : Code := { maxStack := 1, maxLocals := 1, code := jdk_52_method_2_code, exceptionTable := #[], attributes := #[] }
def k13m1 : Method := { name := "newBytesFor", desc := "(I)[B", sig := { parameters := [.int], returnType := some (.array .byte) }, accessFlags := 9, code := some k13c1 }
def k13c2 : Code := { maxStack := 4, maxLocals := 1, code := jdk_52_method_3_code, exceptionTable := #[], attributes := #[] }
def k13m2 : Method := { name := "newBytesLength", desc := "(I)I", sig := { parameters := [.int], returnType := some .int }, accessFlags := 9, code := some k13c2 }
def k13c3 : Code := { maxStack := 4, maxLocals := 3, code := jdk_52_method_4_code, exceptionTable := #[], attributes := #[] }
def k13m3 : Method := { name := "putChar", desc := "([BII)V", sig := { parameters := [(.array .byte), .int, .int], returnType := none }, accessFlags := 8, code := some k13c3 }
def k13c4 : Code := { maxStack := 3, maxLocals := 2, code := jdk_52_method_5_code, exceptionTable := #[], attributes := #[] }
def k13m4 : Method := { name := "getChar", desc := "([BI)C", sig := { parameters := [(.array .byte), .int], returnType := some .char }, accessFlags := 8, code := some k13c4 }
def k13c5 : Code := { maxStack := 2, maxLocals := 1, code := jdk_52_method_6_code, exceptionTable := #[], attributes := #[] }
def k13m5 : Method := { name := "length", desc := "([B)I", sig := { parameters := [(.array .byte)], returnType := some .int }, accessFlags := 9, code := some k13c5 }
def k13c6 : Code := { maxStack := 4, maxLocals := 5, code := jdk_52_method_14_code, exceptionTable := #[], attributes := #[] }
def k13m6 : Method := { name := "toBytes", desc := "([CII)[B", sig := { parameters := [(.array .char), .int, .int], returnType := some (.array .byte) }, accessFlags := 9, code := some k13c6 }
def k13c7 : Code := { maxStack := 2, maxLocals := 2, code := jdk_52_method_15_code, exceptionTable := #[], attributes := #[] }
def k13m7 : Method := { name := "coderFromArrayLen", desc := "([BI)B", sig := { parameters := [(.array .byte), .int], returnType := some .byte }, accessFlags := 8, code := some k13c7 }
def k13c8 : Code := { maxStack := 5, maxLocals := 6, code := jdk_52_method_16_code, exceptionTable := #[], attributes := #[] }
def k13m8 : Method := { name := "compress", desc := "([CII)[B", sig := { parameters := [(.array .char), .int, .int], returnType := some (.array .byte) }, accessFlags := 9, code := some k13c8 }
def k13c9 : Code := { maxStack := 3, maxLocals := 7, code := jdk_52_method_21_code, exceptionTable := #[], attributes := #[] }
def k13m9 : Method := { name := "compress", desc := "([CI[BII)I", sig := { parameters := [(.array .char), .int, (.array .byte), .int, .int], returnType := some .int }, accessFlags := 9, code := some k13c9 }
def k13c10 : Code := { maxStack := 3, maxLocals := 2, code := jdk_52_method_24_code, exceptionTable := #[], attributes := #[] }
def k13m10 : Method := { name := "toBytes", desc := "(C)[B", sig := { parameters := [.char], returnType := some (.array .byte) }, accessFlags := 9, code := some k13c10 }
def k13c11 : Code := { maxStack := 2, maxLocals := 2, code := jdk_52_method_83_code, exceptionTable := #[], attributes := #[] }
def k13m11 : Method := { name := "charAt", desc := "([BI)C", sig := { parameters := [(.array .byte), .int], returnType := some .char }, accessFlags := 9, code := some k13c11 }
def k13c12 : Code := { maxStack := 2, maxLocals := 2, code := jdk_52_method_91_code, exceptionTable := #[], attributes := #[] }
def k13m12 : Method := { name := "checkIndex", desc := "(I[B)V", sig := { parameters := [.int, (.array .byte)], returnType := none }, accessFlags := 9, code := some k13c12 }
/-- java/lang/StringUTF16 -/
def k13 : Class := { plain "java/lang/StringUTF16" (some 0) with
  accessFlags := 48
  interfaces := #[]
  cf := some (fileOf pool13 12 #[.nestMembers #[627, 629, 369]] #[{ accessFlags := 0, nameIndex := 9, descriptorIndex := 10, attributes := #[] }, { accessFlags := 9, nameIndex := 109, descriptorIndex := 110, attributes := #[] }, { accessFlags := 9, nameIndex := 15, descriptorIndex := 16, attributes := #[] }, { accessFlags := 8, nameIndex := 113, descriptorIndex := 114, attributes := #[] }, { accessFlags := 8, nameIndex := 73, descriptorIndex := 74, attributes := #[] }, { accessFlags := 9, nameIndex := 50, descriptorIndex := 51, attributes := #[] }, { accessFlags := 9, nameIndex := 121, descriptorIndex := 122, attributes := #[] }, { accessFlags := 8, nameIndex := 261, descriptorIndex := 262, attributes := #[] }, { accessFlags := 9, nameIndex := 117, descriptorIndex := 122, attributes := #[] }, { accessFlags := 9, nameIndex := 117, descriptorIndex := 118, attributes := #[] }, { accessFlags := 9, nameIndex := 121, descriptorIndex := 475, attributes := #[] }, { accessFlags := 9, nameIndex := 392, descriptorIndex := 74, attributes := #[] }, { accessFlags := 9, nameIndex := 69, descriptorIndex := 70, attributes := #[] }] 48 6 #[] #[{ accessFlags := 26, nameIndex := 61, descriptorIndex := 62, attributes := #[] }, { accessFlags := 26, nameIndex := 65, descriptorIndex := 62, attributes := #[] }, { accessFlags := 24, nameIndex := 430, descriptorIndex := 62, attributes := #[] }, { accessFlags := 4120, nameIndex := 46, descriptorIndex := 47, attributes := #[] }])
  fields := #[{ name := "HI_BYTE_SHIFT", type := .int, accessFlags := 26, slot := 0, constantValue := 0 }, { name := "LO_BYTE_SHIFT", type := .int, accessFlags := 26, slot := 1, constantValue := 0 }, { name := "MAX_LENGTH", type := .int, accessFlags := 24, slot := 2, constantValue := 0 }, { name := "$assertionsDisabled", type := .boolean, accessFlags := 4120, slot := 3, constantValue := 0 }]
  methods := #[k13m0, k13m1, k13m2, k13m3, k13m4, k13m5, k13m6, k13m7, k13m8, k13m9, k13m10, k13m11, k13m12]
  instanceTypes := #[]
  staticTypes := #[.int, .int, .int, .boolean]
  resolved := Array.replicate 635 none
  statics := some 1 }

def pool14 : Array CpInfo := pool [(2, .class_ 4), (1, u "java/lang/Object"), (0, u "<init>"), (0, u "()V"), (17, .class_ 26), (1, u "jdk/internal/util/Preconditions"), (6, u "checkIndex"), (21, .class_ 56), (0, u "jdk/internal/util/Preconditions$4"), (57, .class_ 115), (0, u "jdk/internal/util/Preconditions$1"), (7, u "SIOOBE_FORMATTER"), (0, u "Ljava/util/function/BiFunction;"), (0, .class_ 126), (0, u "jdk/internal/util/Preconditions$2"), (3, u "AIOOBE_FORMATTER"), (0, .class_ 132), (0, u "jdk/internal/util/Preconditions$3"), (3, u "IOOBE_FORMATTER"), (41, u "(IILjava/util/function/BiFunction;)I")] 15

def k14m0 : Method := { name := "<init>", desc := "()V", sig := { parameters := [], returnType := none }, accessFlags := 1, code := none }
def k14c1 : Code := { maxStack := 3, maxLocals := 3, code := jdk_41_method_11_code, exceptionTable := #[], attributes := #[] }
def k14m1 : Method := { name := "checkIndex", desc := "(IILjava/util/function/BiFunction;)I", sig := { parameters := [.int, .int, (.object "java/util/function/BiFunction")], returnType := some .int }, accessFlags := 9, code := some k14c1 }
/-- jdk/internal/util/Preconditions -/
def k14 : Class := { plain "jdk/internal/util/Preconditions" (some 0) with
  accessFlags := 33
  interfaces := #[]
  cf := some (fileOf pool14 24 #[.nestMembers #[55, 131, 125, 114]] #[{ accessFlags := 1, nameIndex := 5, descriptorIndex := 6, attributes := #[] }, { accessFlags := 9, nameIndex := 33, descriptorIndex := 178, attributes := #[] }] 33 2 #[] #[{ accessFlags := 25, nameIndex := 123, descriptorIndex := 124, attributes := #[] }, { accessFlags := 25, nameIndex := 130, descriptorIndex := 124, attributes := #[] }, { accessFlags := 25, nameIndex := 136, descriptorIndex := 124, attributes := #[] }])
  fields := #[{ name := "SIOOBE_FORMATTER", type := (.object "java/util/function/BiFunction"), accessFlags := 25, slot := 0, constantValue := 0 }, { name := "AIOOBE_FORMATTER", type := (.object "java/util/function/BiFunction"), accessFlags := 25, slot := 1, constantValue := 0 }, { name := "IOOBE_FORMATTER", type := (.object "java/util/function/BiFunction"), accessFlags := 25, slot := 2, constantValue := 0 }]
  methods := #[k14m0, k14m1]
  instanceTypes := #[]
  staticTypes := #[(.object "java/util/function/BiFunction"), (.object "java/util/function/BiFunction"), (.object "java/util/function/BiFunction")]
  resolved := Array.replicate 194 none
  statics := some 2 }

def pool15 : Array CpInfo := pool [(9, u "<init>"), (6, .class_ 18), (1, u "java/lang/Object"), (0, u "()V"), (1, .class_ 23), (1, u "jdk/internal/util/ArraysSupport"), (0, u "LOG2_ARRAY_LONG_INDEX_SCALE"), (0, u "I"), (2, u "U"), (0, u "Ljdk/internal/misc/Unsafe;"), (8, u "BIG_ENDIAN"), (0, u "Z"), (8, u "LOG2_BYTE_BIT_SIZE"), (4, u "LOG2_ARRAY_INT_INDEX_SCALE"), (54, u "JLA"), (0, u "Ljdk/internal/access/JavaLangAccess;"), (11, u "LOG2_ARRAY_BOOLEAN_INDEX_SCALE"), (9, u "LOG2_ARRAY_BYTE_INDEX_SCALE"), (5, u "LOG2_ARRAY_CHAR_INDEX_SCALE"), (5, u "LOG2_ARRAY_SHORT_INDEX_SCALE"), (18, u "LOG2_ARRAY_FLOAT_INDEX_SCALE"), (24, u "LOG2_ARRAY_DOUBLE_INDEX_SCALE"), (89, u "T_BOOLEAN"), (2, u "T_CHAR"), (1, u "T_FLOAT"), (1, u "T_DOUBLE"), (1, u "T_BYTE"), (1, u "T_SHORT"), (1, u "T_INT"), (1, u "T_LONG"), (1, u "SOFT_MAX_ARRAY_LENGTH")] 83

def k15m0 : Method := { name := "<init>", desc := "()V", sig := { parameters := [], returnType := none }, accessFlags := 2, code := none }
/-- jdk/internal/util/ArraysSupport -/
def k15 : Class := { plain "jdk/internal/util/ArraysSupport" (some 0) with
  accessFlags := 33
  interfaces := #[]
  cf := some (fileOf pool15 21 #[] #[{ accessFlags := 2, nameIndex := 9, descriptorIndex := 19, attributes := #[] }] 33 16 #[] #[{ accessFlags := 24, nameIndex := 28, descriptorIndex := 29, attributes := #[] }, { accessFlags := 26, nameIndex := 38, descriptorIndex := 39, attributes := #[] }, { accessFlags := 25, nameIndex := 121, descriptorIndex := 25, attributes := #[] }, { accessFlags := 25, nameIndex := 131, descriptorIndex := 25, attributes := #[] }, { accessFlags := 25, nameIndex := 137, descriptorIndex := 25, attributes := #[] }, { accessFlags := 25, nameIndex := 143, descriptorIndex := 25, attributes := #[] }, { accessFlags := 25, nameIndex := 53, descriptorIndex := 25, attributes := #[] }, { accessFlags := 25, nameIndex := 24, descriptorIndex := 25, attributes := #[] }, { accessFlags := 25, nameIndex := 162, descriptorIndex := 25, attributes := #[] }, { accessFlags := 25, nameIndex := 187, descriptorIndex := 25, attributes := #[] }, { accessFlags := 26, nameIndex := 48, descriptorIndex := 25, attributes := #[] }, { accessFlags := 25, nameIndex := 277, descriptorIndex := 25, attributes := #[] }, { accessFlags := 25, nameIndex := 280, descriptorIndex := 25, attributes := #[] }, { accessFlags := 25, nameIndex := 282, descriptorIndex := 25, attributes := #[] }, { accessFlags := 25, nameIndex := 284, descriptorIndex := 25, attributes := #[] }, { accessFlags := 25, nameIndex := 286, descriptorIndex := 25, attributes := #[] }, { accessFlags := 25, nameIndex := 288, descriptorIndex := 25, attributes := #[] }, { accessFlags := 25, nameIndex := 290, descriptorIndex := 25, attributes := #[] }, { accessFlags := 25, nameIndex := 292, descriptorIndex := 25, attributes := #[] }, { accessFlags := 26, nameIndex := 108, descriptorIndex := 109, attributes := #[] }, { accessFlags := 25, nameIndex := 294, descriptorIndex := 25, attributes := #[] }])
  fields := #[{ name := "U", type := (.object "jdk/internal/misc/Unsafe"), accessFlags := 24, slot := 0, constantValue := 0 }, { name := "BIG_ENDIAN", type := .boolean, accessFlags := 26, slot := 1, constantValue := 0 }, { name := "LOG2_ARRAY_BOOLEAN_INDEX_SCALE", type := .int, accessFlags := 25, slot := 2, constantValue := 0 }, { name := "LOG2_ARRAY_BYTE_INDEX_SCALE", type := .int, accessFlags := 25, slot := 3, constantValue := 0 }, { name := "LOG2_ARRAY_CHAR_INDEX_SCALE", type := .int, accessFlags := 25, slot := 4, constantValue := 0 }, { name := "LOG2_ARRAY_SHORT_INDEX_SCALE", type := .int, accessFlags := 25, slot := 5, constantValue := 0 }, { name := "LOG2_ARRAY_INT_INDEX_SCALE", type := .int, accessFlags := 25, slot := 6, constantValue := 0 }, { name := "LOG2_ARRAY_LONG_INDEX_SCALE", type := .int, accessFlags := 25, slot := 7, constantValue := 0 }, { name := "LOG2_ARRAY_FLOAT_INDEX_SCALE", type := .int, accessFlags := 25, slot := 8, constantValue := 0 }, { name := "LOG2_ARRAY_DOUBLE_INDEX_SCALE", type := .int, accessFlags := 25, slot := 9, constantValue := 0 }, { name := "LOG2_BYTE_BIT_SIZE", type := .int, accessFlags := 26, slot := 10, constantValue := 0 }, { name := "T_BOOLEAN", type := .int, accessFlags := 25, slot := 11, constantValue := 0 }, { name := "T_CHAR", type := .int, accessFlags := 25, slot := 12, constantValue := 0 }, { name := "T_FLOAT", type := .int, accessFlags := 25, slot := 13, constantValue := 0 }, { name := "T_DOUBLE", type := .int, accessFlags := 25, slot := 14, constantValue := 0 }, { name := "T_BYTE", type := .int, accessFlags := 25, slot := 15, constantValue := 0 }, { name := "T_SHORT", type := .int, accessFlags := 25, slot := 16, constantValue := 0 }, { name := "T_INT", type := .int, accessFlags := 25, slot := 17, constantValue := 0 }, { name := "T_LONG", type := .int, accessFlags := 25, slot := 18, constantValue := 0 }, { name := "JLA", type := (.object "jdk/internal/access/JavaLangAccess"), accessFlags := 26, slot := 19, constantValue := 0 }, { name := "SOFT_MAX_ARRAY_LENGTH", type := .int, accessFlags := 25, slot := 20, constantValue := 0 }]
  methods := #[k15m0]
  instanceTypes := #[]
  staticTypes := #[(.object "jdk/internal/misc/Unsafe"), .boolean, .int, .int, .int, .int, .int, .int, .int, .int, .int, .int, .int, .int, .int, .int, .int, .int, .int, (.object "jdk/internal/access/JavaLangAccess"), .int]
  resolved := Array.replicate 378 none
  statics := none }

def pool16 : Array CpInfo := pool [(1, u "java/lang/Cloneable"), (0, .class_ 1), (0, u "java/lang/Object"), (0, .class_ 3)] 3

/-- java/lang/Cloneable -/
def k16 : Class := { plain "java/lang/Cloneable" (some 0) with
  accessFlags := 1537
  interfaces := #[]
  cf := some (fileOf pool16 2 #[] #[] 1537 4 #[] #[])
  fields := #[]
  methods := #[]
  instanceTypes := #[]
  staticTypes := #[]
  resolved := Array.replicate 8 none
  statics := none }

/-- the primitive byte -/
def k17 : Class := { plain "byte" none with kind := .primitive 'B', accessFlags := 0x411 }
/-- [B -/
def k18 : Class := { plain "[B" (some 0) with kind := .array 17 .byte, interfaces := #[16, 2], accessFlags := 1041 }

/-- the primitive char -/
def k19 : Class := { plain "char" none with kind := .primitive 'C', accessFlags := 0x411 }
/-- [C -/
def k20 : Class := { plain "[C" (some 0) with kind := .array 19 .char, interfaces := #[16, 2], accessFlags := 1041 }

/-- the primitive int -/
def k21 : Class := { plain "int" none with kind := .primitive 'I', accessFlags := 0x411 }
/-- [I -/
def k22 : Class := { plain "[I" (some 0) with kind := .array 21 .int, interfaces := #[16, 2], accessFlags := 1041 }

def heap : Heap := #[{ cls := 7, slots := #[.long 0, .int 1, .null, .int 0, .null, .int 0, .int 0], vm := .statics 7 },
  { cls := 13, slots := #[.int 0, .int 8, .int 0, .int 1], vm := .statics 13 },
  { cls := 14, slots := #[.null, .null, .null], vm := .statics 14 }]
def classes : Array Class := #[k0, k1, k2, k3, k4, k5, k6, k7, k8, k9, k10, k11, k12, k13, k14, k15, k16, k17, k18, k19, k20, k21, k22]
def interned : List (Array UInt16 × Addr) := []
def slotsUsed : Nat := 14
def theMethod : MethodId := ⟨1, 1⟩
def args0 : Array Value := #[.int 1, .int 97, .int 98, .int 99, .int 100, .int 0]
def aboutOver (below : List Frame) : State where
  vm := { classes := classes, interned := interned.toArray }
  heap := heap
  slotsUsed := slotsUsed
  threads := #[{ frames := .invoking theMethod args0 :: below }]
def below0 : List Frame := [.native { method := ⟨0, 0⟩, args := #[] }]
def about1 : State := aboutOver below0
def p0 : Program := .bare "" "" ""
def e0 : Env := launch0.env 0 0 0
theorem w_frames : about1.frames = Frame.invoking theMethod args0 :: below0 := rfl
set_option maxRecDepth 65536 in
theorem w_args : argsFit about1.vm theMethod args0 = true := by decide +kernel
set_option maxRecDepth 65536 in
theorem w_heap : heapFits about1 = true := by decide +kernel
set_option maxRecDepth 65536 in
theorem w_runnable : about1.curStatus? = some .runnable := by decide +kernel
set_option maxRecDepth 65536 in
theorem w_alone : about1.alone = true := by decide +kernel
set_option maxRecDepth 65536 in
theorem w_named : about1.methodNamed? x = some theMethod := by decide +kernel
set_option maxRecDepth 65536 in
theorem w_hears : about1.hears theMethod below0 = true := by decide +kernel
set_option maxRecDepth 65536 in
theorem w_ripe : about1.ripe theMethod args0 below0 = true := by decide +kernel
theorem w_running : about1.status = .running := rfl
set_option maxRecDepth 65536 in
theorem w_room : about1.hasRoom e0.platform room_1 = true :=
  launch0.hasRoom_least _ room_1 (by decide +kernel) (by decide +kernel) (by decide +kernel) (by decide +kernel) (by decide +kernel) (by decide +kernel)
theorem allAtoms_all (ts : List Jvm.Cond) (a : Array Jvm.Value) (st : Jvm.State) : (allAtoms ts).before a st = ts.all (fun c => c.before a st) := by
  induction ts with
  | nil => rfl
  | cons c t ih =>
    show (Jvm.Cond.and c (allAtoms t)).before a st = _
    rw [Jvm.Cond.before_and, ih, List.all_cons]
def words1 : List Jvm.Cond := Jvm.Cond.code x code maxLocals ret :: tables_1
/-- a 'code' word, met by the world's own term for the bytes: nothing is compared byte by byte -/
theorem code_word {y : MethodName} {bytes : ByteArray} {mx : Nat} {rt : Option FieldType} {a : Array Value} {s : State} {m : MethodId} {meth : Method} {c : Code} (h1 : s.methodNamed? y = some m) (h2 : s.vm.method? m = some meth) (h3 : meth.code = some c) (h4 : c.code = bytes)
    (h5 : (c.maxLocals == mx && c.exceptionTable.isEmpty && decide (c.maxStack ≤ mostOperands) && decide (meth.sig.returnType = rt) && !meth.locks && decide (parseMethodDescriptor y.desc = some meth.sig)) = true) : (Jvm.Cond.code y bytes mx rt).before a s = true := by
  simp only [Bool.and_eq_true, beq_iff_eq, Bool.not_eq_true', decide_eq_true_eq] at h5
  obtain ⟨⟨⟨⟨⟨g1, g2⟩, g3⟩, g4⟩, g5⟩, g6⟩ := h5
  simp [Cond.before, Cond.holds, Cond.value, h1, h2, h3, h4, g1, g2, g3, g4, g5, g6]
def isCode : Jvm.Cond → Bool
  | .code _ _ _ _ => true
  | _ => false
theorem all_split {L : List Jvm.Cond} {P : Jvm.Cond → Bool} (h1 : L.all (fun c => isCode c || P c) = true) (h2 : ∀ c ∈ L.filter isCode, P c = true) : L.all P = true := by
  refine List.all_eq_true.mpr fun c hc => ?_
  have h := List.all_eq_true.mp h1 c hc
  rcases Bool.eq_false_or_eq_true (isCode c) with hi | hi
  · exact h2 c (List.mem_filter.mpr ⟨hc, hi⟩)
  · simpa [hi] using h
set_option maxRecDepth 65536 in
theorem w_c0 : (Jvm.Cond.code x code maxLocals ret).before args0 about1 = true := code_word (m := ⟨1, 1⟩) (meth := k1m1) (c := k1c1) (by decide +kernel) rfl rfl rfl (by decide +kernel)
set_option maxRecDepth 65536 in
theorem w_c1 : (Jvm.Cond.code ({ cls := "hornwright/model/Utf8OrderComparePinLaw", name := "mk", desc := "(ICC)Ljava/lang/String;" } : Jvm.MethodName) method_3_code (4 : Nat) (Option.some (Jvm.ClassFile.FieldType.object "java/lang/String"))).before args0 about1 = true := code_word (m := ⟨1, 2⟩) (meth := k1m2) (c := k1c2) (by decide +kernel) rfl rfl rfl (by decide +kernel)
set_option maxRecDepth 65536 in
theorem w_c2 : (Jvm.Cond.code ({ cls := "hornwright/model/Utf8OrderComparePinLaw", name := "expect", desc := "(ICCICC)I" } : Jvm.MethodName) method_6_code (6 : Nat) (Option.some Jvm.ClassFile.FieldType.int)).before args0 about1 = true := code_word (m := ⟨1, 5⟩) (meth := k1m5) (c := k1c5) (by decide +kernel) rfl rfl rfl (by decide +kernel)
set_option maxRecDepth 65536 in
theorem w_c3 : (Jvm.Cond.code ({ cls := "hornwright/model/Utf8OrderComparePinLaw", name := "sign", desc := "(I)I" } : Jvm.MethodName) method_5_code (1 : Nat) (Option.some Jvm.ClassFile.FieldType.int)).before args0 about1 = true := code_word (m := ⟨1, 4⟩) (meth := k1m4) (c := k1c4) (by decide +kernel) rfl rfl rfl (by decide +kernel)
set_option maxRecDepth 65536 in
theorem w_c4 : (Jvm.Cond.code ({ cls := "hornwright/model/Utf8Order", name := "compare", desc := "(Ljava/lang/String;Ljava/lang/String;)I" } : Jvm.MethodName) prog_52_method_2_code (6 : Nat) (Option.some Jvm.ClassFile.FieldType.int)).before args0 about1 = true := code_word (m := ⟨8, 1⟩) (meth := k8m1) (c := k8c1) (by decide +kernel) rfl rfl rfl (by decide +kernel)
set_option maxRecDepth 65536 in
theorem w_c5 : (Jvm.Cond.code ({ cls := "java/lang/String", name := "length", desc := "()I" } : Jvm.MethodName) jdk_42_method_54_code (1 : Nat) (Option.some Jvm.ClassFile.FieldType.int)).before args0 about1 = true := code_word (m := ⟨7, 2⟩) (meth := k7m2) (c := k7c2) (by decide +kernel) rfl rfl rfl (by decide +kernel)
set_option maxRecDepth 65536 in
theorem w_c6 : (Jvm.Cond.code ({ cls := "java/lang/String", name := "coder", desc := "()B" } : Jvm.MethodName) jdk_42_method_152_code (1 : Nat) (Option.some Jvm.ClassFile.FieldType.byte)).before args0 about1 = true := code_word (m := ⟨7, 7⟩) (meth := k7m7) (c := k7c7) (by decide +kernel) rfl rfl rfl (by decide +kernel)
set_option maxRecDepth 65536 in
theorem w_c7 : (Jvm.Cond.code ({ cls := "java/lang/Math", name := "min", desc := "(II)I" } : Jvm.MethodName) jdk_29_method_69_code (2 : Nat) (Option.some Jvm.ClassFile.FieldType.int)).before args0 about1 = true := code_word (m := ⟨9, 1⟩) (meth := k9m1) (c := k9c1) (by decide +kernel) rfl rfl rfl (by decide +kernel)
set_option maxRecDepth 65536 in
theorem w_c8 : (Jvm.Cond.code ({ cls := "java/lang/Integer", name := "compare", desc := "(II)I" } : Jvm.MethodName) jdk_33_method_40_code (2 : Nat) (Option.some Jvm.ClassFile.FieldType.int)).before args0 about1 = true := code_word (m := ⟨11, 0⟩) (meth := k11m0) (c := k11c0) (by decide +kernel) rfl rfl rfl (by decide +kernel)
set_option maxRecDepth 65536 in
theorem w_c9 : (Jvm.Cond.code ({ cls := "java/lang/String", name := "valueOf", desc := "(C)Ljava/lang/String;" } : Jvm.MethodName) jdk_42_method_139_code (1 : Nat) (Option.some (Jvm.ClassFile.FieldType.object "java/lang/String"))).before args0 about1 = true := code_word (m := ⟨7, 4⟩) (meth := k7m4) (c := k7c4) (by decide +kernel) rfl rfl rfl (by decide +kernel)
set_option maxRecDepth 65536 in
theorem w_c10 : (Jvm.Cond.code ({ cls := "java/lang/StringLatin1", name := "canEncode", desc := "(C)Z" } : Jvm.MethodName) jdk_43_method_3_code (1 : Nat) (Option.some Jvm.ClassFile.FieldType.boolean)).before args0 about1 = true := code_word (m := ⟨12, 2⟩) (meth := k12m2) (c := k12c2) (by decide +kernel) rfl rfl rfl (by decide +kernel)
set_option maxRecDepth 65536 in
theorem w_c11 : (Jvm.Cond.code ({ cls := "java/lang/StringLatin1", name := "toBytes", desc := "(C)[B" } : Jvm.MethodName) jdk_43_method_46_code (1 : Nat) (Option.some (Jvm.ClassFile.FieldType.array Jvm.ClassFile.FieldType.byte))).before args0 about1 = true := code_word (m := ⟨12, 3⟩) (meth := k12m3) (c := k12c3) (by decide +kernel) rfl rfl rfl (by decide +kernel)
set_option maxRecDepth 65536 in
theorem w_c12 : (Jvm.Cond.code ({ cls := "java/lang/String", name := "<init>", desc := "([BB)V" } : Jvm.MethodName) jdk_42_method_151_code (3 : Nat) (Option.none : Option Jvm.ClassFile.FieldType)).before args0 about1 = true := code_word (m := ⟨7, 6⟩) (meth := k7m6) (c := k7c6) (by decide +kernel) rfl rfl rfl (by decide +kernel)
set_option maxRecDepth 65536 in
theorem w_c13 : (Jvm.Cond.code ({ cls := "java/lang/Object", name := "<init>", desc := "()V" } : Jvm.MethodName) object_method_1_code (1 : Nat) (Option.none : Option Jvm.ClassFile.FieldType)).before args0 about1 = true := code_word (m := ⟨0, 0⟩) (meth := k0m0) (c := k0c0) (by decide +kernel) rfl rfl rfl (by decide +kernel)
set_option maxRecDepth 65536 in
theorem w_c14 : (Jvm.Cond.code ({ cls := "java/lang/StringUTF16", name := "toBytes", desc := "(C)[B" } : Jvm.MethodName) jdk_52_method_24_code (2 : Nat) (Option.some (Jvm.ClassFile.FieldType.array Jvm.ClassFile.FieldType.byte))).before args0 about1 = true := code_word (m := ⟨13, 10⟩) (meth := k13m10) (c := k13c10) (by decide +kernel) rfl rfl rfl (by decide +kernel)
set_option maxRecDepth 65536 in
theorem w_c15 : (Jvm.Cond.code ({ cls := "java/lang/StringUTF16", name := "putChar", desc := "([BII)V" } : Jvm.MethodName) jdk_52_method_4_code (3 : Nat) (Option.none : Option Jvm.ClassFile.FieldType)).before args0 about1 = true := code_word (m := ⟨13, 3⟩) (meth := k13m3) (c := k13c3) (by decide +kernel) rfl rfl rfl (by decide +kernel)
set_option maxRecDepth 65536 in
theorem w_c16 : (Jvm.Cond.code ({ cls := "java/lang/String", name := "<init>", desc := "([C)V" } : Jvm.MethodName) jdk_42_method_3_code (2 : Nat) (Option.none : Option Jvm.ClassFile.FieldType)).before args0 about1 = true := code_word (m := ⟨7, 1⟩) (meth := k7m1) (c := k7c1) (by decide +kernel) rfl rfl rfl (by decide +kernel)
set_option maxRecDepth 65536 in
theorem w_c17 : (Jvm.Cond.code ({ cls := "java/lang/String", name := "<init>", desc := "([CIILjava/lang/Void;)V" } : Jvm.MethodName) jdk_42_method_149_code (6 : Nat) (Option.none : Option Jvm.ClassFile.FieldType)).before args0 about1 = true := code_word (m := ⟨7, 5⟩) (meth := k7m5) (c := k7c5) (by decide +kernel) rfl rfl rfl (by decide +kernel)
set_option maxRecDepth 65536 in
theorem w_c18 : (Jvm.Cond.code ({ cls := "java/lang/StringUTF16", name := "compress", desc := "([CII)[B" } : Jvm.MethodName) jdk_52_method_16_code (6 : Nat) (Option.some (Jvm.ClassFile.FieldType.array Jvm.ClassFile.FieldType.byte))).before args0 about1 = true := code_word (m := ⟨13, 8⟩) (meth := k13m8) (c := k13c8) (by decide +kernel) rfl rfl rfl (by decide +kernel)
set_option maxRecDepth 65536 in
theorem w_c19 : (Jvm.Cond.code ({ cls := "java/lang/StringUTF16", name := "compress", desc := "([CI[BII)I" } : Jvm.MethodName) jdk_52_method_21_code (7 : Nat) (Option.some Jvm.ClassFile.FieldType.int)).before args0 about1 = true := code_word (m := ⟨13, 9⟩) (meth := k13m9) (c := k13c9) (by decide +kernel) rfl rfl rfl (by decide +kernel)
set_option maxRecDepth 65536 in
theorem w_c20 : (Jvm.Cond.code ({ cls := "java/lang/StringUTF16", name := "toBytes", desc := "([CII)[B" } : Jvm.MethodName) jdk_52_method_14_code (5 : Nat) (Option.some (Jvm.ClassFile.FieldType.array Jvm.ClassFile.FieldType.byte))).before args0 about1 = true := code_word (m := ⟨13, 6⟩) (meth := k13m6) (c := k13c6) (by decide +kernel) rfl rfl rfl (by decide +kernel)
set_option maxRecDepth 65536 in
theorem w_c21 : (Jvm.Cond.code ({ cls := "java/lang/StringUTF16", name := "newBytesFor", desc := "(I)[B" } : Jvm.MethodName) jdk_52_method_2_code (1 : Nat) (Option.some (Jvm.ClassFile.FieldType.array Jvm.ClassFile.FieldType.byte))).before args0 about1 = true := code_word (m := ⟨13, 1⟩) (meth := k13m1) (c := k13c1) (by decide +kernel) rfl rfl rfl (by decide +kernel)
set_option maxRecDepth 65536 in
theorem w_c22 : (Jvm.Cond.code ({ cls := "java/lang/StringUTF16", name := "newBytesLength", desc := "(I)I" } : Jvm.MethodName) jdk_52_method_3_code (1 : Nat) (Option.some Jvm.ClassFile.FieldType.int)).before args0 about1 = true := code_word (m := ⟨13, 2⟩) (meth := k13m2) (c := k13c2) (by decide +kernel) rfl rfl rfl (by decide +kernel)
set_option maxRecDepth 65536 in
theorem w_c23 : (Jvm.Cond.code ({ cls := "java/lang/StringUTF16", name := "getChar", desc := "([BI)C" } : Jvm.MethodName) jdk_52_method_5_code (2 : Nat) (Option.some Jvm.ClassFile.FieldType.char)).before args0 about1 = true := code_word (m := ⟨13, 4⟩) (meth := k13m4) (c := k13c4) (by decide +kernel) rfl rfl rfl (by decide +kernel)
set_option maxRecDepth 65536 in
theorem w_c24 : (Jvm.Cond.code ({ cls := "java/lang/StringUTF16", name := "coderFromArrayLen", desc := "([BI)B" } : Jvm.MethodName) jdk_52_method_15_code (2 : Nat) (Option.some Jvm.ClassFile.FieldType.byte)).before args0 about1 = true := code_word (m := ⟨13, 7⟩) (meth := k13m7) (c := k13c7) (by decide +kernel) rfl rfl rfl (by decide +kernel)
set_option maxRecDepth 65536 in
theorem w_c25 : (Jvm.Cond.code ({ cls := "java/lang/String", name := "charAt", desc := "(I)C" } : Jvm.MethodName) jdk_42_method_56_code (2 : Nat) (Option.some Jvm.ClassFile.FieldType.char)).before args0 about1 = true := code_word (m := ⟨7, 3⟩) (meth := k7m3) (c := k7c3) (by decide +kernel) rfl rfl rfl (by decide +kernel)
set_option maxRecDepth 65536 in
theorem w_c26 : (Jvm.Cond.code ({ cls := "java/lang/String", name := "isLatin1", desc := "()Z" } : Jvm.MethodName) jdk_42_method_154_code (1 : Nat) (Option.some Jvm.ClassFile.FieldType.boolean)).before args0 about1 = true := code_word (m := ⟨7, 8⟩) (meth := k7m8) (c := k7c8) (by decide +kernel) rfl rfl rfl (by decide +kernel)
set_option maxRecDepth 65536 in
theorem w_c27 : (Jvm.Cond.code ({ cls := "java/lang/StringUTF16", name := "charAt", desc := "([BI)C" } : Jvm.MethodName) jdk_52_method_83_code (2 : Nat) (Option.some Jvm.ClassFile.FieldType.char)).before args0 about1 = true := code_word (m := ⟨13, 11⟩) (meth := k13m11) (c := k13c11) (by decide +kernel) rfl rfl rfl (by decide +kernel)
set_option maxRecDepth 65536 in
theorem w_c28 : (Jvm.Cond.code ({ cls := "java/lang/StringUTF16", name := "checkIndex", desc := "(I[B)V" } : Jvm.MethodName) jdk_52_method_91_code (2 : Nat) (Option.none : Option Jvm.ClassFile.FieldType)).before args0 about1 = true := code_word (m := ⟨13, 12⟩) (meth := k13m12) (c := k13c12) (by decide +kernel) rfl rfl rfl (by decide +kernel)
set_option maxRecDepth 65536 in
theorem w_c29 : (Jvm.Cond.code ({ cls := "java/lang/StringUTF16", name := "length", desc := "([B)I" } : Jvm.MethodName) jdk_52_method_6_code (1 : Nat) (Option.some Jvm.ClassFile.FieldType.int)).before args0 about1 = true := code_word (m := ⟨13, 5⟩) (meth := k13m5) (c := k13c5) (by decide +kernel) rfl rfl rfl (by decide +kernel)
set_option maxRecDepth 65536 in
theorem w_c30 : (Jvm.Cond.code ({ cls := "java/lang/String", name := "checkIndex", desc := "(II)V" } : Jvm.MethodName) jdk_42_method_155_code (2 : Nat) (Option.none : Option Jvm.ClassFile.FieldType)).before args0 about1 = true := code_word (m := ⟨7, 9⟩) (meth := k7m9) (c := k7c9) (by decide +kernel) rfl rfl rfl (by decide +kernel)
set_option maxRecDepth 65536 in
theorem w_c31 : (Jvm.Cond.code ({ cls := "jdk/internal/util/Preconditions", name := "checkIndex", desc := "(IILjava/util/function/BiFunction;)I" } : Jvm.MethodName) jdk_41_method_11_code (3 : Nat) (Option.some Jvm.ClassFile.FieldType.int)).before args0 about1 = true := code_word (m := ⟨14, 1⟩) (meth := k14m1) (c := k14c1) (by decide +kernel) rfl rfl rfl (by decide +kernel)
set_option maxRecDepth 65536 in
theorem w_c32 : (Jvm.Cond.code ({ cls := "hornwright/model/Utf8OrderComparePinLaw", name := "key", desc := "(C)I" } : Jvm.MethodName) method_4_code (1 : Nat) (Option.some Jvm.ClassFile.FieldType.int)).before args0 about1 = true := code_word (m := ⟨1, 3⟩) (meth := k1m3) (c := k1c3) (by decide +kernel) rfl rfl rfl (by decide +kernel)
set_option maxRecDepth 65536 in
theorem w_c33 : (Jvm.Cond.code ({ cls := "hornwright/model/Utf8Order", name := "codePointRank", desc := "(C)I" } : Jvm.MethodName) prog_52_method_3_code (1 : Nat) (Option.some Jvm.ClassFile.FieldType.int)).before args0 about1 = true := code_word (m := ⟨8, 2⟩) (meth := k8m2) (c := k8c2) (by decide +kernel) rfl rfl rfl (by decide +kernel)
set_option maxRecDepth 65536 in
theorem w_c34 : (Jvm.Cond.code ({ cls := "java/lang/StringLatin1", name := "charAt", desc := "([BI)C" } : Jvm.MethodName) jdk_43_method_2_code (2 : Nat) (Option.some Jvm.ClassFile.FieldType.char)).before args0 about1 = true := code_word (m := ⟨12, 1⟩) (meth := k12m1) (c := k12c1) (by decide +kernel) rfl rfl rfl (by decide +kernel)
def codes1 : List Jvm.Cond := [Jvm.Cond.code x code maxLocals ret, Jvm.Cond.code ({ cls := "hornwright/model/Utf8OrderComparePinLaw", name := "mk", desc := "(ICC)Ljava/lang/String;" } : Jvm.MethodName) method_3_code (4 : Nat) (Option.some (Jvm.ClassFile.FieldType.object "java/lang/String")), Jvm.Cond.code ({ cls := "hornwright/model/Utf8OrderComparePinLaw", name := "expect", desc := "(ICCICC)I" } : Jvm.MethodName) method_6_code (6 : Nat) (Option.some Jvm.ClassFile.FieldType.int), Jvm.Cond.code ({ cls := "hornwright/model/Utf8OrderComparePinLaw", name := "sign", desc := "(I)I" } : Jvm.MethodName) method_5_code (1 : Nat) (Option.some Jvm.ClassFile.FieldType.int), Jvm.Cond.code ({ cls := "hornwright/model/Utf8Order", name := "compare", desc := "(Ljava/lang/String;Ljava/lang/String;)I" } : Jvm.MethodName) prog_52_method_2_code (6 : Nat) (Option.some Jvm.ClassFile.FieldType.int), Jvm.Cond.code ({ cls := "java/lang/String", name := "length", desc := "()I" } : Jvm.MethodName) jdk_42_method_54_code (1 : Nat) (Option.some Jvm.ClassFile.FieldType.int), Jvm.Cond.code ({ cls := "java/lang/String", name := "coder", desc := "()B" } : Jvm.MethodName) jdk_42_method_152_code (1 : Nat) (Option.some Jvm.ClassFile.FieldType.byte), Jvm.Cond.code ({ cls := "java/lang/Math", name := "min", desc := "(II)I" } : Jvm.MethodName) jdk_29_method_69_code (2 : Nat) (Option.some Jvm.ClassFile.FieldType.int), Jvm.Cond.code ({ cls := "java/lang/Integer", name := "compare", desc := "(II)I" } : Jvm.MethodName) jdk_33_method_40_code (2 : Nat) (Option.some Jvm.ClassFile.FieldType.int), Jvm.Cond.code ({ cls := "java/lang/String", name := "valueOf", desc := "(C)Ljava/lang/String;" } : Jvm.MethodName) jdk_42_method_139_code (1 : Nat) (Option.some (Jvm.ClassFile.FieldType.object "java/lang/String")), Jvm.Cond.code ({ cls := "java/lang/StringLatin1", name := "canEncode", desc := "(C)Z" } : Jvm.MethodName) jdk_43_method_3_code (1 : Nat) (Option.some Jvm.ClassFile.FieldType.boolean), Jvm.Cond.code ({ cls := "java/lang/StringLatin1", name := "toBytes", desc := "(C)[B" } : Jvm.MethodName) jdk_43_method_46_code (1 : Nat) (Option.some (Jvm.ClassFile.FieldType.array Jvm.ClassFile.FieldType.byte)), Jvm.Cond.code ({ cls := "java/lang/String", name := "<init>", desc := "([BB)V" } : Jvm.MethodName) jdk_42_method_151_code (3 : Nat) (Option.none : Option Jvm.ClassFile.FieldType), Jvm.Cond.code ({ cls := "java/lang/Object", name := "<init>", desc := "()V" } : Jvm.MethodName) object_method_1_code (1 : Nat) (Option.none : Option Jvm.ClassFile.FieldType), Jvm.Cond.code ({ cls := "java/lang/StringUTF16", name := "toBytes", desc := "(C)[B" } : Jvm.MethodName) jdk_52_method_24_code (2 : Nat) (Option.some (Jvm.ClassFile.FieldType.array Jvm.ClassFile.FieldType.byte)), Jvm.Cond.code ({ cls := "java/lang/StringUTF16", name := "putChar", desc := "([BII)V" } : Jvm.MethodName) jdk_52_method_4_code (3 : Nat) (Option.none : Option Jvm.ClassFile.FieldType), Jvm.Cond.code ({ cls := "java/lang/String", name := "<init>", desc := "([C)V" } : Jvm.MethodName) jdk_42_method_3_code (2 : Nat) (Option.none : Option Jvm.ClassFile.FieldType), Jvm.Cond.code ({ cls := "java/lang/String", name := "<init>", desc := "([CIILjava/lang/Void;)V" } : Jvm.MethodName) jdk_42_method_149_code (6 : Nat) (Option.none : Option Jvm.ClassFile.FieldType), Jvm.Cond.code ({ cls := "java/lang/StringUTF16", name := "compress", desc := "([CII)[B" } : Jvm.MethodName) jdk_52_method_16_code (6 : Nat) (Option.some (Jvm.ClassFile.FieldType.array Jvm.ClassFile.FieldType.byte)), Jvm.Cond.code ({ cls := "java/lang/StringUTF16", name := "compress", desc := "([CI[BII)I" } : Jvm.MethodName) jdk_52_method_21_code (7 : Nat) (Option.some Jvm.ClassFile.FieldType.int), Jvm.Cond.code ({ cls := "java/lang/StringUTF16", name := "toBytes", desc := "([CII)[B" } : Jvm.MethodName) jdk_52_method_14_code (5 : Nat) (Option.some (Jvm.ClassFile.FieldType.array Jvm.ClassFile.FieldType.byte)), Jvm.Cond.code ({ cls := "java/lang/StringUTF16", name := "newBytesFor", desc := "(I)[B" } : Jvm.MethodName) jdk_52_method_2_code (1 : Nat) (Option.some (Jvm.ClassFile.FieldType.array Jvm.ClassFile.FieldType.byte)), Jvm.Cond.code ({ cls := "java/lang/StringUTF16", name := "newBytesLength", desc := "(I)I" } : Jvm.MethodName) jdk_52_method_3_code (1 : Nat) (Option.some Jvm.ClassFile.FieldType.int), Jvm.Cond.code ({ cls := "java/lang/StringUTF16", name := "getChar", desc := "([BI)C" } : Jvm.MethodName) jdk_52_method_5_code (2 : Nat) (Option.some Jvm.ClassFile.FieldType.char), Jvm.Cond.code ({ cls := "java/lang/StringUTF16", name := "coderFromArrayLen", desc := "([BI)B" } : Jvm.MethodName) jdk_52_method_15_code (2 : Nat) (Option.some Jvm.ClassFile.FieldType.byte), Jvm.Cond.code ({ cls := "java/lang/String", name := "charAt", desc := "(I)C" } : Jvm.MethodName) jdk_42_method_56_code (2 : Nat) (Option.some Jvm.ClassFile.FieldType.char), Jvm.Cond.code ({ cls := "java/lang/String", name := "isLatin1", desc := "()Z" } : Jvm.MethodName) jdk_42_method_154_code (1 : Nat) (Option.some Jvm.ClassFile.FieldType.boolean), Jvm.Cond.code ({ cls := "java/lang/StringUTF16", name := "charAt", desc := "([BI)C" } : Jvm.MethodName) jdk_52_method_83_code (2 : Nat) (Option.some Jvm.ClassFile.FieldType.char), Jvm.Cond.code ({ cls := "java/lang/StringUTF16", name := "checkIndex", desc := "(I[B)V" } : Jvm.MethodName) jdk_52_method_91_code (2 : Nat) (Option.none : Option Jvm.ClassFile.FieldType), Jvm.Cond.code ({ cls := "java/lang/StringUTF16", name := "length", desc := "([B)I" } : Jvm.MethodName) jdk_52_method_6_code (1 : Nat) (Option.some Jvm.ClassFile.FieldType.int), Jvm.Cond.code ({ cls := "java/lang/String", name := "checkIndex", desc := "(II)V" } : Jvm.MethodName) jdk_42_method_155_code (2 : Nat) (Option.none : Option Jvm.ClassFile.FieldType), Jvm.Cond.code ({ cls := "jdk/internal/util/Preconditions", name := "checkIndex", desc := "(IILjava/util/function/BiFunction;)I" } : Jvm.MethodName) jdk_41_method_11_code (3 : Nat) (Option.some Jvm.ClassFile.FieldType.int), Jvm.Cond.code ({ cls := "hornwright/model/Utf8OrderComparePinLaw", name := "key", desc := "(C)I" } : Jvm.MethodName) method_4_code (1 : Nat) (Option.some Jvm.ClassFile.FieldType.int), Jvm.Cond.code ({ cls := "hornwright/model/Utf8Order", name := "codePointRank", desc := "(C)I" } : Jvm.MethodName) prog_52_method_3_code (1 : Nat) (Option.some Jvm.ClassFile.FieldType.int), Jvm.Cond.code ({ cls := "java/lang/StringLatin1", name := "charAt", desc := "([BI)C" } : Jvm.MethodName) jdk_43_method_2_code (2 : Nat) (Option.some Jvm.ClassFile.FieldType.char)]
set_option maxRecDepth 65536 in
theorem codes_eq : words1.filter isCode = codes1 := rfl
theorem w_codes : ∀ c ∈ words1.filter isCode, c.before args0 about1 = true := by
  rw [codes_eq]
  intro c hc
  simp only [codes1, List.mem_cons, List.not_mem_nil, or_false] at hc
  rcases hc with rfl | rfl | rfl | rfl | rfl | rfl | rfl | rfl | rfl | rfl | rfl | rfl | rfl | rfl | rfl | rfl | rfl | rfl | rfl | rfl | rfl | rfl | rfl | rfl | rfl | rfl | rfl | rfl | rfl | rfl | rfl | rfl | rfl | rfl | rfl
  · exact w_c0
  · exact w_c1
  · exact w_c2
  · exact w_c3
  · exact w_c4
  · exact w_c5
  · exact w_c6
  · exact w_c7
  · exact w_c8
  · exact w_c9
  · exact w_c10
  · exact w_c11
  · exact w_c12
  · exact w_c13
  · exact w_c14
  · exact w_c15
  · exact w_c16
  · exact w_c17
  · exact w_c18
  · exact w_c19
  · exact w_c20
  · exact w_c21
  · exact w_c22
  · exact w_c23
  · exact w_c24
  · exact w_c25
  · exact w_c26
  · exact w_c27
  · exact w_c28
  · exact w_c29
  · exact w_c30
  · exact w_c31
  · exact w_c32
  · exact w_c33
  · exact w_c34
set_option maxRecDepth 65536 in
theorem w_t1 : (words1.take 24).all (fun c => isCode c || c.before args0 about1) = true := by decide +kernel
set_option maxRecDepth 65536 in
theorem w_t2 : ((words1.drop 24).take 24).all (fun c => isCode c || c.before args0 about1) = true := by decide +kernel
set_option maxRecDepth 65536 in
theorem w_t3 : (((words1.drop 24).drop 24).take 24).all (fun c => isCode c || c.before args0 about1) = true := by decide +kernel
set_option maxRecDepth 65536 in
theorem w_t4 : ((((words1.drop 24).drop 24).drop 24).take 24).all (fun c => isCode c || c.before args0 about1) = true := by decide +kernel
set_option maxRecDepth 65536 in
theorem w_t5 : (((((words1.drop 24).drop 24).drop 24).drop 24).take 24).all (fun c => isCode c || c.before args0 about1) = true := by decide +kernel
set_option maxRecDepth 65536 in
theorem w_t6 : ((((((words1.drop 24).drop 24).drop 24).drop 24).drop 24).take 24).all (fun c => isCode c || c.before args0 about1) = true := by decide +kernel
set_option maxRecDepth 65536 in
theorem w_t7 : ((((((words1.drop 24).drop 24).drop 24).drop 24).drop 24).drop 24).all (fun c => isCode c || c.before args0 about1) = true := by decide +kernel
theorem w_tables : (allAtoms (Jvm.Cond.code x code maxLocals ret :: tables_1)).before args0 about1 = true := by
  rw [allAtoms_all]
  show words1.all (fun c => c.before args0 about1) = true
  refine all_split ?_ w_codes
  rw [← List.take_append_drop 24 words1, List.all_append, w_t1, ← List.take_append_drop 24 (words1.drop 24), List.all_append, w_t2, ← List.take_append_drop 24 ((words1.drop 24).drop 24), List.all_append, w_t3, ← List.take_append_drop 24 (((words1.drop 24).drop 24).drop 24), List.all_append, w_t4, ← List.take_append_drop 24 ((((words1.drop 24).drop 24).drop 24).drop 24), List.all_append, w_t5, ← List.take_append_drop 24 (((((words1.drop 24).drop 24).drop 24).drop 24).drop 24), List.all_append, w_t6, w_t7]
  rfl
set_option maxRecDepth 65536 in
theorem w_rest : rest_1_c.before args0 about1 = true := by decide +kernel
set_option maxRecDepth 65536 in
theorem w_case : (Jvm.Cond.and given_1 narrow_1).before args0 about1 = true := by decide +kernel
set_option maxRecDepth 65536 in
theorem w_consts : constsHeld consts_1 about1 := Jvm.Lit.constsHeldB_iff.mp (by decide +kernel)
theorem w_applies : (headSpec (Jvm.Cond.code x code maxLocals ret :: tables_1) room_1).applies x e0.platform about1 = true :=
  (Spec.applies_iff w_frames).mpr ⟨w_running, w_runnable, w_alone, w_named, w_hears, w_ripe, w_room, w_tables⟩
theorem atStart : AtStart classFile x code maxLocals ret World_1 tables_1 room_1 Calls_1 rest_1 Pre_1 launch0 p0 e0 about1 theMethod args0 below0 :=
  ⟨lists_1, trivial, launch0.admits_env _ _ _, launch0.least_env, fairChoices_fair.cas, fairChoices_fair.clock, w_frames, w_args, w_heap, w_applies, ⟨w_consts, trivial⟩, w_rest, w_case⟩
end start1
theorem witness_1 : WitnessClaimed_1 := ⟨start1.p0, start1.e0, start1.about1, start1.theMethod, start1.args0, start1.below0, start1.atStart⟩
end Jvm.Pilot.@@N@@
