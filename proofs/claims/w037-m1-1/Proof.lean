import JvmDerived
import JvmDerived.Pilot.@@N@@Statement
import JvmDerived.Pilot.@@N@@Code
set_option linter.unusedVariables false
set_option linter.unusedSimpArgs false
/- laws to paste: Road.backV (cut by pick.py; bodies as the Statement names them) -/
namespace Jvm.Pilot.@@N@@
namespace StrChars
open Jvm Sem ClassFile Op Lib Jvm.Stand Jvm.Free.XT Jvm.Free.ALB Jvm.Free.JM Jvm.Free
open Jvm.Lib.Cold (StaticIs)
/-- a char array whose places are chars -/
def Ch (a : Addr) (A : Cell) (U : State) : Prop := Arr .char a A U ∧ Typed .char A
theorem Ch.mv {a : Addr} {A : Cell} {U U' : State} (h : Ch a A U) (hal : U.vm.Alike U'.vm) (hh : U'.heap = U.heap) : Ch a A U' := ⟨h.1.mv hal hh, h.2⟩
theorem Ch.keep {a : Addr} {A : Cell} {U U' : State} (h : Ch a A U) (hal : U.vm.Alike U'.vm) (hk : U'.heap[a]? = some A) : Ch a A U' := ⟨h.1.keep hal hk, h.2⟩
/-- what place i of a char[]'s cell holds -/
def cv (A : Cell) (i : Nat) : Int32 := match A.slots[i]? with | some (.int x) => x | _ => 0
theorem Ch.get {a : Addr} {A : Cell} {U : State} (h : Ch a A U) {i : Nat} (hi : i < A.slots.size) : A.slots[i]? = some (.int (cv A i)) := by
  have e := Array.getElem?_eq_getElem hi
  have f := h.2 i _ e
  unfold cv; rw [e]
  generalize A.slots[i] = v at f
  cases v <;> simp [fits] at f ⊢
/-- the byte that i2b leaves of a char -/
def lo8 (x : Int32) : Int32 := x.toInt8.toInt32
theorem fits_lo8 (y : Int32) : fits .byte (.int (lo8 y)) = true := by
  have h1 := y.toInt8.le_toInt
  have h2 := y.toInt8.toInt_lt
  simp only [lo8, fits, Bool.and_eq_true, decide_eq_true_eq, Int32.le_iff_toInt_le, Int8.toInt_toInt32, show (-128 : Int32).toInt = -128 from by decide, show (127 : Int32).toInt = 127 from by decide]
  omega
/-- A' is A but that each place j of lo .. hi - 1 holds f j -/
def Laid (A A' : Cell) (lo hi : Nat) (f : Nat → Value) : Prop := A'.cls = A.cls ∧ A'.vm = A.vm ∧ A'.slots.size = A.slots.size ∧ ∀ i, A'.slots[i]? = if lo ≤ i ∧ i < hi then some (f i) else A.slots[i]?
theorem Laid.zero (A : Cell) (lo : Nat) (f : Nat → Value) : Laid A A lo (lo + 0) f := ⟨rfl, rfl, rfl, fun i => by rw [if_neg (by omega)]⟩
theorem Laid.step {A Ak : Cell} {lo k : Nat} {f : Nat → Value} {v : Value} (h : Laid A Ak lo k f) (hlo : lo ≤ k) (hk : k < Ak.slots.size) (hv : v = f k) : Laid A (Ak.setSlot k v) lo (k + 1) f := by
  refine ⟨h.1, h.2.1, by simpa [Cell.setSlot] using h.2.2.1, fun i => ?_⟩
  by_cases e : k = i
  · subst e; rw [Cell.slots_setSlot_self v hk, if_pos (by omega), hv]
  · rw [Cell.slots_setSlot_ne v e, h.2.2.2 i]
    by_cases q : lo ≤ i ∧ i < k
    · rw [if_pos q, if_pos (by omega)]
    · rw [if_neg q, if_neg (by omega)]
def U16 : String := "java/lang/StringUTF16"
namespace Cmp5
def yN : MethodName := ⟨"java/lang/StringUTF16", "compress", "([CI[BII)I"⟩
abbrev yB : ByteArray := jdk_52_method_21_code
theorem d0 : decode yB 0 = .ok (.iconst 0, 1) := by decide +kernel
theorem d1 : decode yB 1 = .ok (.istore 5, 2) := by decide +kernel
theorem d3 : decode yB 3 = .ok (.iload 5, 2) := by decide +kernel
theorem d5 : decode yB 5 = .ok (.iload 4, 2) := by decide +kernel
theorem d7 : decode yB 7 = .ok (.if_icmp (.ge) 37, 3) := by decide +kernel
theorem d10 : decode yB 10 = .ok (.aload_n 0, 1) := by decide +kernel
theorem d11 : decode yB 11 = .ok (.iload_n 1, 1) := by decide +kernel
theorem d12 : decode yB 12 = .ok (.caload, 1) := by decide +kernel
theorem d13 : decode yB 13 = .ok (.istore 6, 2) := by decide +kernel
theorem d15 : decode yB 15 = .ok (.iload 6, 2) := by decide +kernel
theorem d17 : decode yB 17 = .ok (.sipush 255, 3) := by decide +kernel
theorem d20 : decode yB 20 = .ok (.if_icmp (.le) 6, 3) := by decide +kernel
theorem d26 : decode yB 26 = .ok (.aload_n 2, 1) := by decide +kernel
theorem d27 : decode yB 27 = .ok (.iload_n 3, 1) := by decide +kernel
theorem d28 : decode yB 28 = .ok (.iload 6, 2) := by decide +kernel
theorem d30 : decode yB 30 = .ok (.i2b, 1) := by decide +kernel
theorem d31 : decode yB 31 = .ok (.bastore, 1) := by decide +kernel
theorem d32 : decode yB 32 = .ok (.iinc 1 1, 3) := by decide +kernel
theorem d35 : decode yB 35 = .ok (.iinc 3 1, 3) := by decide +kernel
theorem d38 : decode yB 38 = .ok (.iinc 5 1, 3) := by decide +kernel
theorem d41 : decode yB 41 = .ok (.goto (-38), 3) := by decide +kernel
theorem d44 : decode yB 44 = .ok (.iload 4, 2) := by decide +kernel
theorem d46 : decode yB 46 = .ok (.ireturn, 1) := by decide +kernel
def site : List Cond := []
def tab : Cond := tabOf yN yB 7 (some .int) site
def P (b : Addr) (A : Cell) (d : Addr) (B : Cell) (o q len : Nat) (args : Array Value) (s : State) : Prop := args = #[.ref b, .int (Int32.ofNat o), .ref d, .int (Int32.ofNat q), .int (Int32.ofNat len)] ∧ Ch b A s ∧ Arr .byte d B s ∧ b ≠ d ∧ o + len ≤ A.slots.size ∧ q + len ≤ B.slots.size ∧ ∀ i, i < len → ¬ 255 < cv A (o + i)
def E (b : Addr) (A : Cell) (d : Addr) (B : Cell) (o q len : Nat) (r : Option Value) (s u : State) : Prop := r = some (.int (Int32.ofNat len)) ∧ ∃ B', Put d B' s u ∧ Laid B B' q (q + len) (fun j => Value.int (lo8 (cv A (o + (j - q)))))
/-- no char of the range above 255: len; the places written hold each char's low byte -/
theorem law (l : Launch) (b : Addr) (A : Cell) (d : Addr) (B : Cell) (o q len : Nat) : Law l yN 5 5 0 0 yB 7 (some .int) site (P b A d B o q len) (E b A d B o q len) (copyLocs d q len) 0 0 := by
  refine Law.of_walk (plainFor_of_name (by decide +kernel)) (by decide +kernel) (by decide +kernel) (by decide) (fun _ _ h => by rw [h.1]; rfl) (fun _ U U' hal hh h => ⟨h.1, h.2.1.mv hal hh, h.2.2.1.mv hal hh, h.2.2.2⟩) (fun r U U' V V' h1 hal h2 h => ⟨h.1, h.2.elim fun B' q => ⟨B', q.1.mv h1 h2, q.2⟩⟩) ?_
  intro p e s m args below meth c s₁ X0 hexec hbytes hml hret hlk hnm hown hh0 W hP
  obtain ⟨rfl, hA, hB, hne, l1, l2, hp⟩ := hP
  have c1 : Steps p.tables e below (s₁.setTop (entryFrame m #[.ref b, .int (Int32.ofNat o), .ref d, .int (Int32.ofNat q), .int (Int32.ofNat len)] 7)) (s₁.setTop (mkF m 0 #[.val (.ref b), .val (.int (Int32.ofNat o)), .val (.ref d), .val (.int (Int32.ofNat q)), .val (.int (Int32.ofNat len)), .unset, .unset] [])) := entry rfl
  have hA0 := hA.1.mv X0.warmed.alike hh0
  have hB0 := hB.mv X0.warmed.alike hh0
  have a31 := hA.1.2.2.2
  have c2 : Steps p.tables e below (s₁.setTop (entryFrame m #[.ref b, .int (Int32.ofNat o), .ref d, .int (Int32.ofNat q), .int (Int32.ofNat len)] 7)) (s₁.setTop (mkF m 3 #[.val (.ref b), .val (.int (Int32.ofNat o)), .val (.ref d), .val (.int (Int32.ofNat q)), .val (.int (Int32.ofNat len)), .val (.int 0), .unset] [])) := c1.trans (by
    refine iconstV X0.here hexec rfl 0 (hb hbytes d0) (by decide) ?_
    refine XS.istore X0.here hexec rfl (hb hbytes d1) rfl rfl ?_
    exact Steps.refl _)
  have loop : ∀ (r i : Nat), i + r = len → ∀ (z : Slot), (z = .unset ∨ ∃ w, z = .val w ∧ w.category = 1) → ∀ (Tl : State) (Bk : Cell), Stand p l e { frames := 0, locals := 0, cells := 0, slots := 0 } s m #[.ref b, .int (Int32.ofNat o), .ref d, .int (Int32.ofNat q), .int (Int32.ofNat len)] below meth c Tl ([] ++ copyLocs d q i) 0 0 → Put d Bk s₁ Tl → Laid B Bk q (q + i) (fun j => Value.int (lo8 (cv A (o + (j - q))))) →
      Steps p.tables e below (s₁.setTop (entryFrame m #[.ref b, .int (Int32.ofNat o), .ref d, .int (Int32.ofNat q), .int (Int32.ofNat len)] 7)) (Tl.setTop (mkF m 3 #[.val (.ref b), .val (.int (Int32.ofNat (o + i))), .val (.ref d), .val (.int (Int32.ofNat (q + i))), .val (.int (Int32.ofNat len)), .val (.int (Int32.ofNat i)), z] [])) → ∃ (T' : State) (B' : Cell) (z' : Slot), Stand p l e { frames := 0, locals := 0, cells := 0, slots := 0 } s m #[.ref b, .int (Int32.ofNat o), .ref d, .int (Int32.ofNat q), .int (Int32.ofNat len)] below meth c T' ([] ++ copyLocs d q len) 0 0 ∧ Put d B' s₁ T' ∧ Laid B B' q (q + len) (fun j => Value.int (lo8 (cv A (o + (j - q))))) ∧
      Steps p.tables e below (s₁.setTop (entryFrame m #[.ref b, .int (Int32.ofNat o), .ref d, .int (Int32.ofNat q), .int (Int32.ofNat len)] 7)) (T'.setTop (mkF m 3 #[.val (.ref b), .val (.int (Int32.ofNat (o + len))), .val (.ref d), .val (.int (Int32.ofNat (q + len))), .val (.int (Int32.ofNat len)), .val (.int (Int32.ofNat len)), z'] [])) := by
    intro r
    induction r with
    | zero =>
      intro i hi z hz Tl Bk Xl pl fl cl
      have hil : i = len := by omega
      rw [hil] at Xl fl cl
      exact ⟨Tl, Bk, z, Xl, pl, fl, cl⟩
    | succ r ih =>
      intro i hi z hz Tl Bk Xl pl fl cl
      have all := X0.warmed.alike.symm.trans Xl.warmed.alike
      have hAl := hA0.keep all (pl.other hne hA0.1)
      have hBk := hB0.like all pl.1 fl.1 fl.2.1 fl.2.2.1
      have hlt : q + i < Bk.slots.size := by rw [fl.2.2.1]; omega
      have c3 : Steps p.tables e below (s₁.setTop (entryFrame m #[.ref b, .int (Int32.ofNat o), .ref d, .int (Int32.ofNat q), .int (Int32.ofNat len)] 7)) (Tl.setTop (mkF m 12 #[.val (.ref b), .val (.int (Int32.ofNat (o + i))), .val (.ref d), .val (.int (Int32.ofNat (q + i))), .val (.int (Int32.ofNat len)), .val (.int (Int32.ofNat i)), z] [.int (Int32.ofNat (o + i)), .ref b])) := cl.trans (by
        refine XS.iload Xl.here hexec rfl (hb hbytes d3) rfl ?_
        refine XS.iload Xl.here hexec rfl (hb hbytes d5) rfl ?_
        refine XS.icmpNo Xl.here hexec rfl (hb hbytes d7) rfl (ii_ge_f (lt32 (by omega) (by omega))) ?_
        refine XS.aloadN Xl.here hexec rfl (hb hbytes d10) rfl rfl ?_
        refine XS.iloadN Xl.here hexec rfl (hb hbytes d11) rfl ?_
        exact Steps.refl _)
      have c4 : Steps p.tables e below (s₁.setTop (entryFrame m #[.ref b, .int (Int32.ofNat o), .ref d, .int (Int32.ofNat q), .int (Int32.ofNat len)] 7)) (Tl.setTop (mkF m 13 #[.val (.ref b), .val (.int (Int32.ofNat (o + i))), .val (.ref d), .val (.int (Int32.ofNat (q + i))), .val (.int (Int32.ofNat len)), .val (.int (Int32.ofNat i)), z] [.int (cv A (o + i))])) := c3.trans (by
        refine Xl.aget hexec hAl rfl (hA.get (i := o + i) (by omega)) rfl rfl (hb hbytes d12) ?_
        exact Steps.refl _)
      have c5 : Steps p.tables e below (s₁.setTop (entryFrame m #[.ref b, .int (Int32.ofNat o), .ref d, .int (Int32.ofNat q), .int (Int32.ofNat len)] 7)) (Tl.setTop (mkF m 15 #[.val (.ref b), .val (.int (Int32.ofNat (o + i))), .val (.ref d), .val (.int (Int32.ofNat (q + i))), .val (.int (Int32.ofNat len)), .val (.int (Int32.ofNat i)), .val (.int (cv A (o + i)))] [])) := c4.trans (by
        refine XS.istoreS Xl.here hexec rfl (hb hbytes d13) rfl rfl hz ?_
        exact Steps.refl _)
      have c6 : Steps p.tables e below (s₁.setTop (entryFrame m #[.ref b, .int (Int32.ofNat o), .ref d, .int (Int32.ofNat q), .int (Int32.ofNat len)] 7)) (Tl.setTop (mkF m 31 #[.val (.ref b), .val (.int (Int32.ofNat (o + i))), .val (.ref d), .val (.int (Int32.ofNat (q + i))), .val (.int (Int32.ofNat len)), .val (.int (Int32.ofNat i)), .val (.int (cv A (o + i)))] [.int (lo8 (cv A (o + i))), .int (Int32.ofNat (q + i)), .ref d])) := c5.trans (by
        refine XS.iload Xl.here hexec rfl (hb hbytes d15) rfl ?_
        refine sipushV Xl.here hexec rfl 255 (hb hbytes d17) (by decide) ?_
        refine XS.icmpYes Xl.here hexec rfl (pc0 := 20) rfl (hb hbytes d20) rfl (ii_le_t (hp i (by omega))) (by decide) rfl ?_
        refine XS.aloadN Xl.here hexec rfl (hb hbytes d26) rfl rfl ?_
        refine XS.iloadN Xl.here hexec rfl (hb hbytes d27) rfl ?_
        refine XS.iload Xl.here hexec rfl (hb hbytes d28) rfl ?_
        refine i2b Xl.here hexec rfl (hb hbytes d30) rfl ?_
        exact Steps.refl _)
      obtain ⟨T7, X7, p7, st7⟩ := Xl.aput hexec hBk rfl hlt rfl (fits_lo8 (cv A (o + i))) (g := (mkF m 31 #[.val (.ref b), .val (.int (Int32.ofNat (o + i))), .val (.ref d), .val (.int (Int32.ofNat (q + i))), .val (.int (Int32.ofNat len)), .val (.int (Int32.ofNat i)), .val (.int (cv A (o + i)))] [.int (lo8 (cv A (o + i))), .int (Int32.ofNat (q + i)), .ref d])) rfl (rest := []) rfl (hb hbytes d31)
      have c8 : Steps p.tables e below (s₁.setTop (entryFrame m #[.ref b, .int (Int32.ofNat o), .ref d, .int (Int32.ofNat q), .int (Int32.ofNat len)] 7)) (T7.setTop (mkF m 32 #[.val (.ref b), .val (.int (Int32.ofNat (o + i))), .val (.ref d), .val (.int (Int32.ofNat (q + i))), .val (.int (Int32.ofNat len)), .val (.int (Int32.ofNat i)), .val (.int (cv A (o + i)))] [])) := c6.trans (st7 _ (Steps.refl _))
      have c9 : Steps p.tables e below (s₁.setTop (entryFrame m #[.ref b, .int (Int32.ofNat o), .ref d, .int (Int32.ofNat q), .int (Int32.ofNat len)] 7)) (T7.setTop (mkF m 3 #[.val (.ref b), .val (.int (Int32.ofNat (o + i) + 1)), .val (.ref d), .val (.int (Int32.ofNat (q + i) + 1)), .val (.int (Int32.ofNat len)), .val (.int (Int32.ofNat i + 1)), .val (.int (cv A (o + i)))] [])) := c8.trans (by
        refine iincV X7.here hexec rfl 1 (hb hbytes d32) (by decide) rfl rfl ?_
        refine iincV X7.here hexec rfl 1 (hb hbytes d35) (by decide) rfl rfl ?_
        refine iincV X7.here hexec rfl 1 (hb hbytes d38) (by decide) rfl rfl ?_
        refine XS.goto X7.here hexec rfl (pc0 := 41) rfl (hb hbytes d41) (by decide) rfl ?_
        exact Steps.refl _)
      have c10 : Steps p.tables e below (s₁.setTop (entryFrame m #[.ref b, .int (Int32.ofNat o), .ref d, .int (Int32.ofNat q), .int (Int32.ofNat len)] 7)) (T7.setTop (mkF m 3 #[.val (.ref b), .val (.int (Int32.ofNat (o + (i + 1)))), .val (.ref d), .val (.int (Int32.ofNat (q + (i + 1)))), .val (.int (Int32.ofNat len)), .val (.int (Int32.ofNat (i + 1))), .val (.int (cv A (o + i)))] [])) := by
        have := c9
        rw [succ32, succ32, succ32] at this
        exact this
      exact ih (i + 1) (by omega) _ (Or.inr ⟨_, rfl, rfl⟩) T7 _ (by rw [copyLocs_step, ← List.append_assoc]; exact X7) (pl.trans p7) (fl.step (by omega) hlt (by simp)) c10
  obtain ⟨T9, B9, z9, X9, p9, f9, g9⟩ := loop len 0 (by omega) .unset (Or.inl rfl) s₁ B (by simpa [copyLocs] using X0) ⟨hB0.1, fun _ _ => rfl, rfl⟩ (Laid.zero _ _ _) c2
  have c11 : Steps p.tables e below (s₁.setTop (entryFrame m #[.ref b, .int (Int32.ofNat o), .ref d, .int (Int32.ofNat q), .int (Int32.ofNat len)] 7)) (T9.setTop (mkF m 46 #[.val (.ref b), .val (.int (Int32.ofNat (o + len))), .val (.ref d), .val (.int (Int32.ofNat (q + len))), .val (.int (Int32.ofNat len)), .val (.int (Int32.ofNat len)), z9] [.int (Int32.ofNat len)])) := g9.trans (by
    refine XS.iload X9.here hexec rfl (hb hbytes d3) rfl ?_
    refine XS.iload X9.here hexec rfl (hb hbytes d5) rfl ?_
    refine XS.icmpYes X9.here hexec rfl (pc0 := 7) rfl (hb hbytes d7) rfl (ii_ge_t (nlt32 (by omega) (Nat.le_refl _))) (by decide) rfl ?_
    refine XS.iload X9.here hexec rfl (hb hbytes d44) rfl ?_
    exact Steps.refl _)
  exact ⟨T9, some (.int (Int32.ofNat len)), _, _, _, X9, by simp, rfl, rfl, (fun h => by cases h), ⟨rfl, B9, p9.from hh0, f9⟩, fun fs hl => c11.trans (X9.ireturnOut hexec hret rfl (Or.inl rfl) (hb hbytes d46) hl)⟩
end Cmp5
namespace Cmp3
def yN : MethodName := ⟨"java/lang/StringUTF16", "compress", "([CII)[B"⟩
abbrev yB : ByteArray := jdk_52_method_16_code
theorem d0 : decode yB 0 = .ok (.iload_n 2, 1) := by decide +kernel
theorem d1 : decode yB 1 = .ok (.newarray .byte, 2) := by decide +kernel
theorem d3 : decode yB 3 = .ok (.astore_n 3, 1) := by decide +kernel
theorem d4 : decode yB 4 = .ok (.aload_n 0, 1) := by decide +kernel
theorem d5 : decode yB 5 = .ok (.iload_n 1, 1) := by decide +kernel
theorem d6 : decode yB 6 = .ok (.aload_n 3, 1) := by decide +kernel
theorem d7 : decode yB 7 = .ok (.iconst 0, 1) := by decide +kernel
theorem d8 : decode yB 8 = .ok (.iload_n 2, 1) := by decide +kernel
theorem d9 : decode yB 9 = .ok (.invokestatic 115, 3) := by decide +kernel
theorem d12 : decode yB 12 = .ok (.istore 4, 2) := by decide +kernel
theorem d14 : decode yB 14 = .ok (.iload 4, 2) := by decide +kernel
theorem d16 : decode yB 16 = .ok (.iload_n 2, 1) := by decide +kernel
theorem d17 : decode yB 17 = .ok (.if_icmp (.eq) 40, 3) := by decide +kernel
theorem d57 : decode yB 57 = .ok (.aload_n 3, 1) := by decide +kernel
theorem d58 : decode yB 58 = .ok (.areturn, 1) := by decide +kernel
def site : List Cond := [.arrayClass .byte, Cmp5.tab] ++ staticW U16 115 Cmp5.yN
def tab : Cond := tabOf yN yB 6 (some (.array .byte)) site
def P (b : Addr) (A : Cell) (o len : Nat) (args : Array Value) (s : State) : Prop := args = #[.ref b, .int (Int32.ofNat o), .int (Int32.ofNat len)] ∧ Ch b A s ∧ o + len ≤ A.slots.size ∧ len ≤ 536870912 ∧ ∀ i, i < len → ¬ 255 < cv A (o + i)
def E (b : Addr) (A : Cell) (o len : Nat) (r : Option Value) (s u : State) : Prop := NewArr .byte "[B" len (fun j => .int (lo8 (cv A (o + j)))) r s u ∧ u.heap.size = s.heap.size + 1
/-- no char of the range above 255: a new byte[] of their low bytes -/
theorem law (l : Launch) (b : Addr) (A : Cell) (o len : Nat) : Law l yN 3 3 1 18 yB 6 (some (.array .byte)) site (P b A o len) (E b A o len) [] 1 len := by
  refine Law.of_walk (plainFor_of_name (by decide +kernel)) (by decide +kernel) (by decide +kernel) (by decide) (fun _ _ h => by rw [h.1]; rfl) (fun _ U U' hal hh h => ⟨h.1, h.2.1.mv hal hh, h.2.2⟩) (fun r U U' V V' h1 hal h2 h => ⟨NewArr.mv r U U' V V' h1 hal h2 h.1, by rw [h1, h2]; exact h.2⟩) ?_
  intro p e s m args below meth c s₁ X0 hexec hbytes hml hret hlk hnm hown hh0 W hP
  obtain ⟨rfl, hA, l1, l2, hp⟩ := hP
  have a31 := hA.1.2.2.2
  have c1 : Steps p.tables e below (s₁.setTop (entryFrame m #[.ref b, .int (Int32.ofNat o), .int (Int32.ofNat len)] 6)) (s₁.setTop (mkF m 0 #[.val (.ref b), .val (.int (Int32.ofNat o)), .val (.int (Int32.ofNat len)), .unset, .unset, .unset] [])) := entry rfl
  have c2 : Steps p.tables e below (s₁.setTop (entryFrame m #[.ref b, .int (Int32.ofNat o), .int (Int32.ofNat len)] 6)) (s₁.setTop (mkF m 1 #[.val (.ref b), .val (.int (Int32.ofNat o)), .val (.int (Int32.ofNat len)), .unset, .unset, .unset] [.int (Int32.ofNat len)])) := c1.trans (by
    refine XS.iloadN X0.here hexec rfl (hb hbytes d0) rfl ?_
    exact Steps.refl _)
  obtain ⟨T3, B3, X3, ba3, bs3, bv3, bh3, bf3, st3⟩ := X0.anew hexec (atype := .byte) (wk W (.arrayClass .byte)) rfl (by show len * 1 ≤ _; omega) (by omega) (g := (mkF m 1 #[.val (.ref b), .val (.int (Int32.ofNat o)), .val (.int (Int32.ofNat len)), .unset, .unset, .unset] [.int (Int32.ofNat len)])) rfl (hb hbytes d1) (rest := []) rfl (Nat.le_refl _) (by show 0 + len ≤ len; omega)
  rw [hh0] at ba3 st3
  have kp3 : XT.Kept s T3 := (XT.Kept.of_eq hh0).push bh3
  have hA3 := hA.keep X3.warmed.alike (kp3 _ _ hA.1.1)
  have hne : b ≠ s.heap.size := hA.1.ne
  have c4 : Steps p.tables e below (s₁.setTop (entryFrame m #[.ref b, .int (Int32.ofNat o), .int (Int32.ofNat len)] 6)) (T3.setTop (mkF m 3 #[.val (.ref b), .val (.int (Int32.ofNat o)), .val (.int (Int32.ofNat len)), .unset, .unset, .unset] [.ref s.heap.size])) := c2.trans (st3 _ (Steps.refl _))
  have c5 : Steps p.tables e below (s₁.setTop (entryFrame m #[.ref b, .int (Int32.ofNat o), .int (Int32.ofNat len)] 6)) (T3.setTop (mkF m 9 #[.val (.ref b), .val (.int (Int32.ofNat o)), .val (.int (Int32.ofNat len)), .val (.ref s.heap.size), .unset, .unset] [.int (Int32.ofNat len), .int 0, .ref s.heap.size, .int (Int32.ofNat o), .ref b])) := c4.trans (by
    refine XS.astoreN X3.here hexec rfl (hb hbytes d3) rfl rfl rfl ?_
    refine XS.aloadN X3.here hexec rfl (hb hbytes d4) rfl rfl ?_
    refine XS.iloadN X3.here hexec rfl (hb hbytes d5) rfl ?_
    refine XS.aloadN X3.here hexec rfl (hb hbytes d6) rfl rfl ?_
    refine iconstV X3.here hexec rfl 0 (hb hbytes d7) (by decide) ?_
    refine XS.iloadN X3.here hexec rfl (hb hbytes d8) rfl ?_
    exact Steps.refl _)
  obtain ⟨v6, T6, X6, E6, g6⟩ := X3.callS hexec (Cmp5.law l b A s.heap.size B3 o 0 len) hown (wks W (staticW U16 115 Cmp5.yN)) (wk W Cmp5.tab) (W := 0) (Nat.le_of_ble_eq_true rfl) (Nat.le_of_ble_eq_true rfl) (Nat.le_refl _) (by show 0 + len + 0 ≤ len; omega) (g := (mkF m 9 #[.val (.ref b), .val (.int (Int32.ofNat o)), .val (.int (Int32.ofNat len)), .val (.ref s.heap.size), .unset, .unset] [.int (Int32.ofNat len), .int (Int32.ofNat 0), .ref s.heap.size, .int (Int32.ofNat o), .ref b])) rfl (by rw [hml]; rfl) c5 (argsL := [.ref b, .int (Int32.ofNat o), .ref s.heap.size, .int (Int32.ofNat 0), .int (Int32.ofNat len)]) (rest := []) rfl rfl (by show 2 * 0 + 0 ≤ _; decide) (hb hbytes d9) (⟨rfl, hA3, ba3, hne, l1, by rw [bs3]; simp, hp⟩)
  obtain ⟨rfl, B6, p6, f6⟩ := E6
  have c7 : Steps p.tables e below (s₁.setTop (entryFrame m #[.ref b, .int (Int32.ofNat o), .int (Int32.ofNat len)] 6)) (T6.setTop (mkF m 12 #[.val (.ref b), .val (.int (Int32.ofNat o)), .val (.int (Int32.ofNat len)), .val (.ref s.heap.size), .unset, .unset] [.int (Int32.ofNat len)])) := g6
  have c8 : Steps p.tables e below (s₁.setTop (entryFrame m #[.ref b, .int (Int32.ofNat o), .int (Int32.ofNat len)] 6)) (T6.setTop (mkF m 58 #[.val (.ref b), .val (.int (Int32.ofNat o)), .val (.int (Int32.ofNat len)), .val (.ref s.heap.size), .val (.int (Int32.ofNat len)), .unset] [.ref s.heap.size])) := c7.trans (by
    refine XS.istore X6.here hexec rfl (hb hbytes d12) rfl rfl ?_
    refine XS.iload X6.here hexec rfl (hb hbytes d14) rfl ?_
    refine XS.iloadN X6.here hexec rfl (hb hbytes d16) rfl ?_
    refine XS.icmpYes X6.here hexec rfl (pc0 := 17) rfl (hb hbytes d17) rfl (ii_eq_t rfl) (by decide) rfl ?_
    refine XS.aloadN X6.here hexec rfl (hb hbytes d57) rfl rfl ?_
    exact Steps.refl _)
  have X8 := X6.wide (L' := []) (cells' := 1) (slots' := len) (fun x hx hlt => by
    simp only [List.nil_append, copyLocs, List.mem_map, List.mem_range] at hx
    obtain ⟨i, -, rfl⟩ := hx
    exact absurd hlt (Nat.lt_irrefl _)) (Nat.le_refl _) (by omega)
  exact ⟨T6, some (.ref s.heap.size), _, _, _, X8, rfl, rfl, rfl, (fun h => by cases h), ⟨⟨rfl, B6, ba3.like (X3.warmed.alike.symm.trans X6.warmed.alike) p6.1 f6.1 f6.2.1 f6.2.2.1, f6.2.1.trans bv3, by rw [X6.warmed.alike.findClass, f6.1]; exact bf3, by rw [f6.2.2.1, bs3]; simp, fun j hj => by rw [f6.2.2.2 j, if_pos (by omega)]; rfl, kp3.put p6 (Nat.le_refl _)⟩, by rw [p6.2.2, bh3, hh0]; simp⟩, fun fs hl => c8.trans (X8.areturnOut hexec rfl hret rfl (hb hbytes d58) hl)⟩
end Cmp3
namespace CodL
def yN : MethodName := ⟨"java/lang/StringUTF16", "coderFromArrayLen", "([BI)B"⟩
abbrev yB : ByteArray := jdk_52_method_15_code
theorem d0 : decode yB 0 = .ok (.iload_n 1, 1) := by decide +kernel
theorem d1 : decode yB 1 = .ok (.aload_n 0, 1) := by decide +kernel
theorem d2 : decode yB 2 = .ok (.arraylength, 1) := by decide +kernel
theorem d3 : decode yB 3 = .ok (.isub, 1) := by decide +kernel
theorem d4 : decode yB 4 = .ok (.bipush 31, 2) := by decide +kernel
theorem d6 : decode yB 6 = .ok (.iushr, 1) := by decide +kernel
theorem d7 : decode yB 7 = .ok (.i2b, 1) := by decide +kernel
theorem d8 : decode yB 8 = .ok (.ireturn, 1) := by decide +kernel
def site : List Cond := []
def tab : Cond := tabOf yN yB 2 (some .byte) site
def P (d : Addr) (B : Cell) (args : Array Value) (s : State) : Prop := args = #[.ref d, .int (Int32.ofNat B.slots.size)] ∧ Arr .byte d B s
def E (r : Option Value) (s u : State) : Prop := XT.PureE (some (.int 0)) r s u
/-- an array as long as the number of chars: LATIN1 -/
theorem law (l : Launch) (d : Addr) (B : Cell) : Law l yN 2 2 0 0 yB 2 (some .byte) site (P d B) E [] 0 0 := by
  refine Law.of_walk (plainFor_of_name (by decide +kernel)) (by decide +kernel) (by decide +kernel) (by decide) (fun _ _ h => by rw [h.1]; rfl) (fun _ U U' hal hh h => ⟨h.1, h.2.mv hal hh⟩) (fun r U U' V V' h1 hal h2 h => XT.PureE.mv r U U' V V' h1 hal h2 h) ?_
  intro p e s m args below meth c s₁ X0 hexec hbytes hml hret hlk hnm hown hh0 W hP
  obtain ⟨rfl, hB⟩ := hP
  have hB0 := hB.mv X0.warmed.alike hh0
  have c1 : Steps p.tables e below (s₁.setTop (entryFrame m #[.ref d, .int (Int32.ofNat B.slots.size)] 2)) (s₁.setTop (mkF m 0 #[.val (.ref d), .val (.int (Int32.ofNat B.slots.size))] [])) := entry rfl
  have c2 : Steps p.tables e below (s₁.setTop (entryFrame m #[.ref d, .int (Int32.ofNat B.slots.size)] 2)) (s₁.setTop (mkF m 2 #[.val (.ref d), .val (.int (Int32.ofNat B.slots.size))] [.ref d, .int (Int32.ofNat B.slots.size)])) := c1.trans (by
    refine XS.iloadN X0.here hexec rfl (hb hbytes d0) rfl ?_
    refine XS.aloadN X0.here hexec rfl (hb hbytes d1) rfl rfl ?_
    exact Steps.refl _)
  have c3 : Steps p.tables e below (s₁.setTop (entryFrame m #[.ref d, .int (Int32.ofNat B.slots.size)] 2)) (s₁.setTop (mkF m 8 #[.val (.ref d), .val (.int (Int32.ofNat B.slots.size))] [.int (lo8 (ushr (Int32.ofNat B.slots.size - Int32.ofNat B.slots.size) 31))])) := c2.trans (by
    refine X0.alen hexec hB0 rfl rfl (hb hbytes d2) ?_
    refine XS.isub X0.here hexec rfl (hb hbytes d3) rfl ?_
    refine bipushV X0.here hexec rfl 31 (hb hbytes d4) (by decide) ?_
    refine iushr X0.here hexec rfl (hb hbytes d6) rfl ?_
    refine i2b X0.here hexec rfl (hb hbytes d7) rfl ?_
    exact Steps.refl _)
  have e0 : lo8 (ushr (Int32.ofNat B.slots.size - Int32.ofNat B.slots.size) 31) = 0 := by rw [Int32.sub_self]; decide
  rw [e0] at c3
  exact ⟨s₁, some (.int 0), _, _, _, X0, rfl, rfl, rfl, (fun h => by cases h), ⟨rfl, hh0⟩, fun fs hl => c3.trans (X0.ireturnOut hexec hret rfl (Or.inr (Or.inr (Or.inl rfl))) (hb hbytes d8) hl)⟩
end CodL
/-- the String at a is Latin-1 over a new byte[] (the heap's one new cell): the low bytes of the len chars of A from o on; every cell but a is kept -/
def Got (a : Addr) (D : Cell) (fV fC : Field) (A : Cell) (o len : Nat) (r : Option Value) (s u : State) : Prop := r = none ∧ ∃ D' V : Cell, Blank "java/lang/String" a D' u ∧ Same D D' [fV.slot, fC.slot] ∧ D'.slots[fV.slot]? = some (.ref s.heap.size) ∧ D'.slots[fC.slot]? = some (.int 0) ∧ Arr .byte s.heap.size V u ∧ V.vm = .none ∧ u.vm.findClass "[B" = some V.cls ∧ V.slots.size = len ∧ (∀ j, j < len → V.slots[j]? = some (.int (lo8 (cv A (o + j))))) ∧ (∀ (y : Addr) (c : Cell), y ≠ a → s.heap[y]? = some c → u.heap[y]? = some c) ∧ u.heap.size = s.heap.size + 1
theorem Got.mv {a : Addr} {D A : Cell} {fV fC : Field} {o len : Nat} : ∀ r (U U' V V' : State), U'.heap = U.heap → V.vm.Alike V'.vm → V'.heap = V.heap → Got a D fV fC A o len r U V → Got a D fV fC A o len r U' V' :=
  fun r U U' V V' h1 hal h2 ⟨e0, D', X, a1, a2, a3, a4, a5, a6, a7, a8, a9, a10, a11⟩ => ⟨e0, D', X, a1.mv hal h2, a2, by rw [h1]; exact a3, a4, by rw [h1]; exact a5.mv hal h2, a6, by rw [hal.findClass]; exact a7, a8, a9, by rw [h1, h2]; exact a10, by rw [h1, h2]; exact a11⟩
namespace New4
def yN : MethodName := ⟨"java/lang/String", "<init>", "([CIILjava/lang/Void;)V"⟩
abbrev yB : ByteArray := jdk_42_method_149_code
theorem d0 : decode yB 0 = .ok (.aload_n 0, 1) := by decide +kernel
theorem d1 : decode yB 1 = .ok (.invokespecial 1, 3) := by decide +kernel
theorem d4 : decode yB 4 = .ok (.iload_n 3, 1) := by decide +kernel
theorem d5 : decode yB 5 = .ok (.ifCond (.ne) 22, 3) := by decide +kernel
theorem d27 : decode yB 27 = .ok (.getstatic 38, 3) := by decide +kernel
theorem d30 : decode yB 30 = .ok (.ifCond (.eq) 28, 3) := by decide +kernel
theorem d33 : decode yB 33 = .ok (.aload_n 1, 1) := by decide +kernel
theorem d34 : decode yB 34 = .ok (.iload_n 2, 1) := by decide +kernel
theorem d35 : decode yB 35 = .ok (.iload_n 3, 1) := by decide +kernel
theorem d36 : decode yB 36 = .ok (.invokestatic 177, 3) := by decide +kernel
theorem d39 : decode yB 39 = .ok (.astore 5, 2) := by decide +kernel
theorem d41 : decode yB 41 = .ok (.aload_n 0, 1) := by decide +kernel
theorem d42 : decode yB 42 = .ok (.aload 5, 2) := by decide +kernel
theorem d44 : decode yB 44 = .ok (.iload_n 3, 1) := by decide +kernel
theorem d45 : decode yB 45 = .ok (.invokestatic 47, 3) := by decide +kernel
theorem d48 : decode yB 48 = .ok (.putfield 15, 3) := by decide +kernel
theorem d51 : decode yB 51 = .ok (.aload_n 0, 1) := by decide +kernel
theorem d52 : decode yB 52 = .ok (.aload 5, 2) := by decide +kernel
theorem d54 : decode yB 54 = .ok (.putfield 9, 3) := by decide +kernel
theorem d57 : decode yB 57 = .ok (.return_, 1) := by decide +kernel
def site : List Cond := [.fieldLink "java/lang/String" 38 "java/lang/String" "COMPACT_STRINGS" "Z", Cmp3.tab, CodL.tab, .laysFinal "java/lang/String" "java/lang/String" "value" "[B", .fieldLink "java/lang/String" 9 "java/lang/String" "value" "[B", .laysFinal "java/lang/String" "java/lang/String" "coder" "B", .fieldLink "java/lang/String" 15 "java/lang/String" "coder" "B"] ++ objW "java/lang/String" 1 ++ staticW "java/lang/String" 177 Cmp3.yN ++ staticW "java/lang/String" 47 CodL.yN
def tab : Cond := tabOf yN yB 6 none site
def P (a : Addr) (D : Cell) (fV fC : Field) (b : Addr) (A : Cell) (z : Int32) (o len : Nat) (args : Array Value) (s : State) : Prop := args = #[.ref a, .ref b, .int (Int32.ofNat o), .int (Int32.ofNat len), .null] ∧ Blank "java/lang/String" a D s ∧ Found "java/lang/String" "value" "[B" fV s ∧ Found "java/lang/String" "coder" "B" fC s ∧ Ch b A s ∧ StaticIs s "java/lang/String" "COMPACT_STRINGS" "Z" (.int z) ∧ ¬ z = 0 ∧ 0 < len ∧ o + len ≤ A.slots.size ∧ len ≤ 536870912 ∧ ∀ i, i < len → ¬ 255 < cv A (o + i)
def E (a : Addr) (D : Cell) (fV fC : Field) (A : Cell) (o len : Nat) (r : Option Value) (s u : State) : Prop := Got a D fV fC A o len r s u
/-- len > 0, no char of the range above 255: a Latin-1 String of their low bytes -/
theorem law (l : Launch) (a : Addr) (D : Cell) (fV fC : Field) (b : Addr) (A : Cell) (z : Int32) (o len : Nat) : Law l yN 5 4 2 35 yB 6 none site (P a D fV fC b A z o len) (E a D fV fC A o len) [⟨a, fC.slot⟩, ⟨a, fV.slot⟩] 1 len := by
  refine Law.of_walk (plainFor_of_name (by decide +kernel)) (by decide +kernel) (by decide +kernel) (by decide) (fun _ _ h => by rw [h.1]; rfl) (fun _ U U' hal hh h => ⟨h.1, h.2.1.mv hal hh, h.2.2.1.al hal, h.2.2.2.1.al hal, h.2.2.2.2.1.mv hal hh, h.2.2.2.2.2.1.there hal hh, h.2.2.2.2.2.2⟩) (fun r U U' V V' h1 hal h2 h => Got.mv r U U' V V' h1 hal h2 h) ?_
  intro p e s m args below meth c s₁ X0 hexec hbytes hml hret hlk hnm hown hh0 W hP
  obtain ⟨rfl, hB, f1, f2, hA, s1, hz, l0, l1, l2, hp⟩ := hP
  have a31 := hA.1.2.2.2
  have c1 : Steps p.tables e below (s₁.setTop (entryFrame m #[.ref a, .ref b, .int (Int32.ofNat o), .int (Int32.ofNat len), .null] 6)) (s₁.setTop (mkF m 0 #[.val (.ref a), .val (.ref b), .val (.int (Int32.ofNat o)), .val (.int (Int32.ofNat len)), .val .null, .unset] [])) := entry rfl
  have c2 : Steps p.tables e below (s₁.setTop (entryFrame m #[.ref a, .ref b, .int (Int32.ofNat o), .int (Int32.ofNat len), .null] 6)) (s₁.setTop (mkF m 1 #[.val (.ref a), .val (.ref b), .val (.int (Int32.ofNat o)), .val (.int (Int32.ofNat len)), .val .null, .unset] [.ref a])) := c1.trans (by
    refine XS.aloadN X0.here hexec rfl (hb hbytes d0) rfl rfl ?_
    exact Steps.refl _)
  obtain ⟨T3, X3, q3, st3⟩ := X0.oinit hexec hown (wks W (objW "java/lang/String" 1)) (g := (mkF m 1 #[.val (.ref a), .val (.ref b), .val (.int (Int32.ofNat o)), .val (.int (Int32.ofNat len)), .val .null, .unset] [.ref a])) rfl (by rw [hml]; rfl) (rest := []) rfl (hb hbytes d1) (W := 0) (by show 2 * 0 + 0 ≤ _; decide) (Nat.le_of_ble_eq_true rfl) (Nat.le_of_ble_eq_true rfl)
  have hh3 := q3.trans hh0
  have c4 : Steps p.tables e below (s₁.setTop (entryFrame m #[.ref a, .ref b, .int (Int32.ofNat o), .int (Int32.ofNat len), .null] 6)) (T3.setTop (mkF m 27 #[.val (.ref a), .val (.ref b), .val (.int (Int32.ofNat o)), .val (.int (Int32.ofNat len)), .val .null, .unset] [])) := (c2.trans (st3 _ (Steps.refl _))).trans (by
    refine XS.iloadN X3.here hexec rfl (hb hbytes d4) rfl ?_
    refine XS.ifYes X3.here hexec rfl (pc0 := 5) rfl (hb hbytes d5) rfl (i0_ne_t (nz32 (by omega) l0)) (by decide) rfl ?_
    exact Steps.refl _)
  obtain ⟨T5, X5, q5, st5⟩ := X3.sget hexec hown (wk W (.fieldLink "java/lang/String" 38 "java/lang/String" "COMPACT_STRINGS" "Z")) s1 (fun _ _ h => by rw [hh3]; exact h) (g := (mkF m 27 #[.val (.ref a), .val (.ref b), .val (.int (Int32.ofNat o)), .val (.int (Int32.ofNat len)), .val .null, .unset] [])) rfl (hb hbytes d27)
  have hh5 := q5.trans hh3
  have c6 : Steps p.tables e below (s₁.setTop (entryFrame m #[.ref a, .ref b, .int (Int32.ofNat o), .int (Int32.ofNat len), .null] 6)) (T5.setTop (mkF m 30 #[.val (.ref a), .val (.ref b), .val (.int (Int32.ofNat o)), .val (.int (Int32.ofNat len)), .val .null, .unset] [.int z])) := c4.trans (st5 _ (Steps.refl _))
  have c7 : Steps p.tables e below (s₁.setTop (entryFrame m #[.ref a, .ref b, .int (Int32.ofNat o), .int (Int32.ofNat len), .null] 6)) (T5.setTop (mkF m 36 #[.val (.ref a), .val (.ref b), .val (.int (Int32.ofNat o)), .val (.int (Int32.ofNat len)), .val .null, .unset] [.int (Int32.ofNat len), .int (Int32.ofNat o), .ref b])) := c6.trans (by
    refine XS.ifNo X5.here hexec rfl (hb hbytes d30) rfl (i0_eq_f hz) ?_
    refine XS.aloadN X5.here hexec rfl (hb hbytes d33) rfl rfl ?_
    refine XS.iloadN X5.here hexec rfl (hb hbytes d34) rfl ?_
    refine XS.iloadN X5.here hexec rfl (hb hbytes d35) rfl ?_
    exact Steps.refl _)
  obtain ⟨v8, T8, X8, E8, g8⟩ := X5.callS hexec (Cmp3.law l b A o len) hown (wks W (staticW "java/lang/String" 177 Cmp3.yN)) (wk W Cmp3.tab) (W := 0) (Nat.le_of_ble_eq_true rfl) (Nat.le_of_ble_eq_true rfl) (Nat.le_refl _) (by show 0 + len ≤ len; omega) (g := (mkF m 36 #[.val (.ref a), .val (.ref b), .val (.int (Int32.ofNat o)), .val (.int (Int32.ofNat len)), .val .null, .unset] [.int (Int32.ofNat len), .int (Int32.ofNat o), .ref b])) rfl (by rw [hml]; rfl) c7 (argsL := [.ref b, .int (Int32.ofNat o), .int (Int32.ofNat len)]) (rest := []) rfl rfl (by show 2 * 0 + 0 ≤ _; decide) (hb hbytes d36) (⟨rfl, hA.mv X5.warmed.alike hh5, l1, l2, hp⟩)
  obtain ⟨e8, z8⟩ := E8
  obtain ⟨rfl, N, n1, n2, n3, n4, n5, n6⟩ := NewArr.mv _ T5 s _ _ hh5.symm (Vm.Alike.refl _) rfl e8
  rw [hh5] at z8
  have hB1 := hB.keep X8.warmed.alike (n6 _ _ hB.1)
  have hne : s.heap.size ≠ a := (Nat.ne_of_lt (Array.getElem?_eq_some_iff.mp hB.1).1).symm
  have c9 : Steps p.tables e below (s₁.setTop (entryFrame m #[.ref a, .ref b, .int (Int32.ofNat o), .int (Int32.ofNat len), .null] 6)) (T8.setTop (mkF m 39 #[.val (.ref a), .val (.ref b), .val (.int (Int32.ofNat o)), .val (.int (Int32.ofNat len)), .val .null, .unset] [.ref s.heap.size])) := g8
  have c10 : Steps p.tables e below (s₁.setTop (entryFrame m #[.ref a, .ref b, .int (Int32.ofNat o), .int (Int32.ofNat len), .null] 6)) (T8.setTop (mkF m 45 #[.val (.ref a), .val (.ref b), .val (.int (Int32.ofNat o)), .val (.int (Int32.ofNat len)), .val .null, .val (.ref s.heap.size)] [.int (Int32.ofNat N.slots.size), .ref s.heap.size, .ref a])) := by
    have hc : Steps p.tables e below (s₁.setTop (entryFrame m #[.ref a, .ref b, .int (Int32.ofNat o), .int (Int32.ofNat len), .null] 6)) (T8.setTop (mkF m 45 #[.val (.ref a), .val (.ref b), .val (.int (Int32.ofNat o)), .val (.int (Int32.ofNat len)), .val .null, .val (.ref s.heap.size)] [.int (Int32.ofNat len), .ref s.heap.size, .ref a])) := c9.trans (by
      refine XS.astore X8.here hexec rfl (hb hbytes d39) rfl rfl rfl ?_
      refine XS.aloadN X8.here hexec rfl (hb hbytes d41) rfl rfl ?_
      refine XS.aload X8.here hexec rfl (hb hbytes d42) rfl rfl ?_
      refine XS.iloadN X8.here hexec rfl (hb hbytes d44) rfl ?_
      exact Steps.refl _)
    rw [n4]; exact hc
  obtain ⟨v11, T11, X11, E11, g11⟩ := X8.callS hexec (CodL.law l s.heap.size N) hown (wks W (staticW "java/lang/String" 47 CodL.yN)) (wk W CodL.tab) (W := 1) (Nat.le_of_ble_eq_true rfl) (Nat.le_of_ble_eq_true rfl) (Nat.le_refl _) (by show 0 + len + 0 ≤ len; omega) (g := (mkF m 45 #[.val (.ref a), .val (.ref b), .val (.int (Int32.ofNat o)), .val (.int (Int32.ofNat len)), .val .null, .val (.ref s.heap.size)] [.int (Int32.ofNat N.slots.size), .ref s.heap.size, .ref a])) rfl (by rw [hml]; rfl) c10 (argsL := [.ref s.heap.size, .int (Int32.ofNat N.slots.size)]) (rest := [.ref a]) rfl rfl (by show 2 * 0 + (1 + 0) ≤ _; decide) (hb hbytes d45) (⟨rfl, n1⟩)
  obtain ⟨rfl, q11⟩ := E11
  have hB11 := hB1.mv (X8.warmed.alike.symm.trans X11.warmed.alike) q11
  have c12 : Steps p.tables e below (s₁.setTop (entryFrame m #[.ref a, .ref b, .int (Int32.ofNat o), .int (Int32.ofNat len), .null] 6)) (T11.setTop (mkF m 48 #[.val (.ref a), .val (.ref b), .val (.int (Int32.ofNat o)), .val (.int (Int32.ofNat len)), .val .null, .val (.ref s.heap.size)] [.int 0, .ref a])) := g11
  obtain ⟨T13, X13, p13, bl13, sl13, st13⟩ := X11.finit hexec hown (wk W (.fieldLink "java/lang/String" 15 "java/lang/String" "coder" "B")) (Or.inr ⟨_, (wk W (.laysFinal "java/lang/String" "java/lang/String" "coder" "B"))⟩) (Or.inl ⟨rfl, hnm⟩) f2 (Or.inl rfl) hB11 (t := .byte) (by decide +kernel) rfl (g := (mkF m 48 #[.val (.ref a), .val (.ref b), .val (.int (Int32.ofNat o)), .val (.int (Int32.ofNat len)), .val .null, .val (.ref s.heap.size)] [.int 0, .ref a])) rfl (rest := []) rfl (hb hbytes d48)
  have c14 : Steps p.tables e below (s₁.setTop (entryFrame m #[.ref a, .ref b, .int (Int32.ofNat o), .int (Int32.ofNat len), .null] 6)) (T13.setTop (mkF m 54 #[.val (.ref a), .val (.ref b), .val (.int (Int32.ofNat o)), .val (.int (Int32.ofNat len)), .val .null, .val (.ref s.heap.size)] [.ref s.heap.size, .ref a])) := (c12.trans (st13 _ (Steps.refl _))).trans (by
    refine XS.aloadN X13.here hexec rfl (hb hbytes d51) rfl rfl ?_
    refine XS.aload X13.here hexec rfl (hb hbytes d52) rfl rfl ?_
    exact Steps.refl _)
  obtain ⟨T15, X15, p15, bl15, sl15, st15⟩ := X13.finit hexec hown (wk W (.fieldLink "java/lang/String" 9 "java/lang/String" "value" "[B")) (Or.inr ⟨_, (wk W (.laysFinal "java/lang/String" "java/lang/String" "value" "[B"))⟩) (Or.inl ⟨rfl, hnm⟩) f1 (Or.inl rfl) bl13 (t := (.array .byte)) (by decide +kernel) rfl (g := (mkF m 54 #[.val (.ref a), .val (.ref b), .val (.int (Int32.ofNat o)), .val (.int (Int32.ofNat len)), .val .null, .val (.ref s.heap.size)] [.ref s.heap.size, .ref a])) rfl (rest := []) rfl (hb hbytes d54)
  have c16 : Steps p.tables e below (s₁.setTop (entryFrame m #[.ref a, .ref b, .int (Int32.ofNat o), .int (Int32.ofNat len), .null] 6)) (T15.setTop (mkF m 57 #[.val (.ref a), .val (.ref b), .val (.int (Int32.ofNat o)), .val (.int (Int32.ofNat len)), .val .null, .val (.ref s.heap.size)] [])) := c14.trans (st15 _ (Steps.refl _))
  have ap := apart (Or.inr ⟨_, (wk W (.laysFinal "java/lang/String" "java/lang/String" "value" "[B"))⟩) (Or.inr ⟨_, (wk W (.laysFinal "java/lang/String" "java/lang/String" "coder" "B"))⟩) f1 f2 (t₁ := .array .byte) (t₂ := .byte) (by decide +kernel) (by decide +kernel) (by decide)
  have al := X8.warmed.alike.symm.trans X15.warmed.alike
  have n7 : T11.heap[s.heap.size]? = some N := by rw [q11]; exact n1.1
  exact ⟨T15, none, _, _, _, X15, by simp, rfl, by omega, (fun _ => rfl), ⟨rfl, _, N, bl15, ((Same.refl D _).set _ (by simp)).set _ (by simp), sl15, (Cell.slots_setSlot_ne _ ap).trans sl13, n1.keep al (p15.other hne (p13.other hne n7)), n2, by rw [al.findClass]; exact n3, n4, n5, fun y c h1 h2 => p15.other h1 (p13.other h1 (by rw [q11]; exact n6 y c h2)), by rw [p15.2.2, p13.2.2, q11]; exact z8⟩, fun fs hl => c16.trans (X15.returnOut hexec hret (hb hbytes d57) hl)⟩
end New4
namespace New1
def yN : MethodName := ⟨"java/lang/String", "<init>", "([C)V"⟩
abbrev yB : ByteArray := jdk_42_method_3_code
theorem d0 : decode yB 0 = .ok (.aload_n 0, 1) := by decide +kernel
theorem d1 : decode yB 1 = .ok (.aload_n 1, 1) := by decide +kernel
theorem d2 : decode yB 2 = .ok (.iconst 0, 1) := by decide +kernel
theorem d3 : decode yB 3 = .ok (.aload_n 1, 1) := by decide +kernel
theorem d4 : decode yB 4 = .ok (.arraylength, 1) := by decide +kernel
theorem d5 : decode yB 5 = .ok (.aconst_null, 1) := by decide +kernel
theorem d6 : decode yB 6 = .ok (.invokespecial 27, 3) := by decide +kernel
theorem d9 : decode yB 9 = .ok (.return_, 1) := by decide +kernel
def site : List Cond := [New4.tab] ++ initW "java/lang/String" 27 New4.yN
def tab : Cond := tabOf yN yB 2 none site
def P (a : Addr) (D : Cell) (fV fC : Field) (b : Addr) (A : Cell) (z : Int32) (args : Array Value) (s : State) : Prop := args = #[.ref a, .ref b] ∧ Blank "java/lang/String" a D s ∧ Found "java/lang/String" "value" "[B" fV s ∧ Found "java/lang/String" "coder" "B" fC s ∧ Ch b A s ∧ StaticIs s "java/lang/String" "COMPACT_STRINGS" "Z" (.int z) ∧ ¬ z = 0 ∧ 0 < A.slots.size ∧ A.slots.size ≤ 536870912 ∧ ∀ i, i < A.slots.size → ¬ 255 < cv A i
def E (a : Addr) (D : Cell) (fV fC : Field) (A : Cell) (r : Option Value) (s u : State) : Prop := Got a D fV fC A 0 A.slots.size r s u
/-- new String(chars), not empty, no char above 255: a Latin-1 String of their low bytes -/
theorem law (l : Launch) (a : Addr) (D : Cell) (fV fC : Field) (b : Addr) (A : Cell) (z : Int32) : Law l yN 2 1 3 52 yB 2 none site (P a D fV fC b A z) (E a D fV fC A) [⟨a, fC.slot⟩, ⟨a, fV.slot⟩] 1 A.slots.size := by
  refine Law.of_walk (plainFor_of_name (by decide +kernel)) (by decide +kernel) (by decide +kernel) (by decide) (fun _ _ h => by rw [h.1]; rfl) (fun _ U U' hal hh h => ⟨h.1, h.2.1.mv hal hh, h.2.2.1.al hal, h.2.2.2.1.al hal, h.2.2.2.2.1.mv hal hh, h.2.2.2.2.2.1.there hal hh, h.2.2.2.2.2.2⟩) (fun r U U' V V' h1 hal h2 h => Got.mv r U U' V V' h1 hal h2 h) ?_
  intro p e s m args below meth c s₁ X0 hexec hbytes hml hret hlk hnm hown hh0 W hP
  obtain ⟨rfl, hB, f1, f2, hA, s1, hz, l0, l2, hp⟩ := hP
  have c1 : Steps p.tables e below (s₁.setTop (entryFrame m #[.ref a, .ref b] 2)) (s₁.setTop (mkF m 0 #[.val (.ref a), .val (.ref b)] [])) := entry rfl
  have c2 : Steps p.tables e below (s₁.setTop (entryFrame m #[.ref a, .ref b] 2)) (s₁.setTop (mkF m 6 #[.val (.ref a), .val (.ref b)] [.null, .int (Int32.ofNat A.slots.size), .int 0, .ref b, .ref a])) := c1.trans (by
    refine XS.aloadN X0.here hexec rfl (hb hbytes d0) rfl rfl ?_
    refine XS.aloadN X0.here hexec rfl (hb hbytes d1) rfl rfl ?_
    refine iconstV X0.here hexec rfl 0 (hb hbytes d2) (by decide) ?_
    refine XS.aloadN X0.here hexec rfl (hb hbytes d3) rfl rfl ?_
    refine X0.alen hexec (hA.1.mv X0.warmed.alike hh0) rfl rfl (hb hbytes d4) ?_
    refine XS.aconstNull X0.here hexec rfl (hb hbytes d5) ?_
    exact Steps.refl _)
  obtain ⟨v3, T3, X3, E3, g3⟩ := X0.callN hexec (New4.law l a D fV fC b A z 0 A.slots.size) rfl hown (wks W (initW "java/lang/String" 27 New4.yN)) (W New4.tab (by simp only [site, List.mem_cons, List.mem_append, true_or, or_true])) (W := 0) (Nat.le_of_ble_eq_true rfl) (Nat.le_of_ble_eq_true rfl) (Nat.le_refl _) (by show 0 + A.slots.size ≤ A.slots.size; omega) (g := (mkF m 6 #[.val (.ref a), .val (.ref b)] [.null, .int (Int32.ofNat A.slots.size), .int (Int32.ofNat 0), .ref b, .ref a])) rfl (by rw [hml]; rfl) c2 (argsL := [.ref b, .int (Int32.ofNat 0), .int (Int32.ofNat A.slots.size), .null]) (rest := []) rfl rfl (by show 2 * 0 + 0 ≤ _; decide) (hb hbytes d6) (⟨rfl, hB.mv X0.warmed.alike hh0, f1.al X0.warmed.alike, f2.al X0.warmed.alike, hA.mv X0.warmed.alike hh0, s1.there X0.warmed.alike hh0, hz, l0, by omega, l2, fun i hi => by rw [Nat.zero_add]; exact hp i hi⟩)
  have e0 := Got.mv _ s₁ s _ _ hh0.symm (Vm.Alike.refl _) rfl E3
  obtain rfl := e0.1
  have c4 : Steps p.tables e below (s₁.setTop (entryFrame m #[.ref a, .ref b] 2)) (T3.setTop (mkF m 9 #[.val (.ref a), .val (.ref b)] [])) := g3
  exact ⟨T3, none, _, _, _, X3, by simp, rfl, by omega, (fun _ => rfl), e0, fun fs hl => c4.trans (X3.returnOut hexec hret (hb hbytes d9) hl)⟩
theorem pays {l : Launch} {R : Room} {p : Program} {e : Env} {below : List Frame} {s : State} {sargs : Array Value} {len W : Nat} (a : Addr) (D : Cell) (fV fC : Field) (b : Addr) (A : Cell) (z : Int32) (htab : tab.before sargs s = true) (hfr : 4 ≤ R.frames) (hlo : W + 65 ≤ R.locals) :
    Back l R p e below s sargs yN len W (fun A₁ a₁ => A₁.cells + 1 ≤ R.cells ∧ A₁.slots + A.slots.size ≤ R.slots ∧ P a D fV fC b A z a₁ A₁.U) (fun A₁ _ v₁ B₁ => E a D fV fC A v₁ A₁.U B₁.U ∧ B₁.locs = A₁.locs ++ [⟨a, fC.slot⟩, ⟨a, fV.slot⟩] ∧ B₁.cells = A₁.cells + 1 ∧ B₁.slots = A₁.slots + A.slots.size) :=
  (law l a D fV fC b A z).pays htab hfr (by omega)
end New1
end StrChars
namespace StrChars.Road
open Jvm Sem ClassFile Op Lib Jvm.Stand Jvm.Free Jvm.Free.XT
open Jvm.Lib.Cold (StaticIs)
abbrev ST : String := "java/lang/String"
/-- every table word that New1's law asks, flat -/
abbrev words : List Jvm.Cond := [.code New1.yN New1.yB 2 none, .initialized ST, .methodLink ST 27 New4.yN, .instanceMethod New4.yN,
  .code New4.yN New4.yB 6 none, .fieldLink ST 38 ST "COMPACT_STRINGS" "Z", .laysFinal ST ST "value" "[B", .fieldLink ST 9 ST "value" "[B", .laysFinal ST ST "coder" "B", .fieldLink ST 15 ST "coder" "B",
  .methodLink ST 1 Lib.objectInit, .instanceMethod Lib.objectInit, .code Lib.objectInit ⟨#[0xb1]⟩ 1 none, .methodLink ST 177 Cmp3.yN, .static Cmp3.yN, .methodLink ST 47 CodL.yN, .static CodL.yN,
  .code Cmp3.yN Cmp3.yB 6 (some (.array .byte)), .initialized U16, .arrayClass .byte, .methodLink U16 115 Cmp5.yN, .static Cmp5.yN, .code Cmp5.yN Cmp5.yB 7 (some .int), .code CodL.yN CodL.yB 2 (some .byte)]
theorem tab_of {a : Array Value} {s : State} (h : ∀ w ∈ words, w.before a s = true) : New1.tab.before a s = true := by
  have h5 : Cmp5.tab.before a s = true := unparts (wk h (.code Cmp5.yN Cmp5.yB 7 (some .int))) (wks h (.initialized Cmp5.yN.cls :: Cmp5.site))
  have hc : CodL.tab.before a s = true := unparts (wk h (.code CodL.yN CodL.yB 2 (some .byte))) (wks h (.initialized CodL.yN.cls :: CodL.site))
  have q5 : ∀ w ∈ Cmp5.tab :: words, w.before a s = true := fun w hw => (List.mem_cons.mp hw).elim (fun e => e ▸ h5) (h w)
  have h3 : Cmp3.tab.before a s = true := unparts (wk q5 (.code Cmp3.yN Cmp3.yB 6 (some (.array .byte)))) (wks q5 (.initialized Cmp3.yN.cls :: Cmp3.site))
  have q3 : ∀ w ∈ Cmp3.tab :: CodL.tab :: words, w.before a s = true := fun w hw => (List.mem_cons.mp hw).elim (fun e => e ▸ h3) fun hw => (List.mem_cons.mp hw).elim (fun e => e ▸ hc) (h w)
  have h4 : New4.tab.before a s = true := unparts (wk q3 (.code New4.yN New4.yB 6 none)) (wks q3 (.initialized New4.yN.cls :: New4.site))
  have q4 : ∀ w ∈ New4.tab :: words, w.before a s = true := fun w hw => (List.mem_cons.mp hw).elim (fun e => e ▸ h4) (h w)
  exact unparts (wk q4 (.code New1.yN New1.yB 2 none)) (wks q4 (.initialized New1.yN.cls :: New1.site))
/-- the words ride from the start Z to the walk's own state -/
theorem moved {Z s : State} {a0 args : Array Value} (hZ : Z.Warmed39 s.vm) (hw : ∀ d ∈ words, d.before a0 Z = true) : ∀ d ∈ words, d.before args s = true := fun d hd => by
  have q := hw d hd
  have t : ∀ d ∈ words, d = .arrayClass .byte ∨ (d.onTables && d.keepsFace) = true := by decide +kernel
  rcases t d hd with rfl | t
  · exact RoadKit.mvA hZ q
  · exact RoadKit.mv hZ q t
/-- WHAT COMES BACK, over the tables of the start Z: h the heap at the call, h' behind it -/
def Q (Z : State) (x : Addr) (A : Cell) (h : Heap) (v : Option Value) (h' : Heap) (L : List Loc) : Prop := v = none ∧ (∀ y ∈ L, y.base = x) ∧ RoadKit.Keep h h' [x] ∧ h'.size = h.size + 1 ∧ RoadKit.Exa Z h' x ST ∧ RoadKit.Fld Z h' x ST "value" "[B" (.ref h.size) ∧ RoadKit.Fld Z h' x ST "coder" "B" (.int 0) ∧
  (∃ V : Cell, RoadKit.Arr Z h' h.size V .byte ∧ V.vm = .none ∧ Z.vm.findClass "[B" = some V.cls ∧ V.slots.size = A.slots.size ∧ ∀ j, j < A.slots.size → V.slots[j]? = some (.int (lo8 (cv A j)))) ∧
  ∀ (O n d : String) (w : Value), RoadKit.Fld Z h x O n d w → RoadKit.slotOf Z O n d ≠ RoadKit.slotOf Z ST "value" "[B" → RoadKit.slotOf Z O n d ≠ RoadKit.slotOf Z ST "coder" "B" → RoadKit.Fld Z h' x O n d w
/-- **new String(chars) AT A CALL, IN THE ROAD'S FORM**: for specialBack behind newO: x the fresh String, b the char[] with the cell A -/
theorem back {p : Program} {l : Launch} {e : Env} {R : Room} {s : State} {args : Array Value} {below : List Frame} {len W : Nat} {Z : State} {a0 : Array Value} {h : Heap} (hZ : Z.Warmed39 s.vm) (hw : ∀ d ∈ words, d.before a0 Z = true) {kI : Nat} (wi : (Jvm.Cond.instantiable ST kI).before a0 Z = true)
    {x b : Addr} {A : Cell} {z : Int32} {v0 c0 : Value} (E : RoadKit.Exa Z h x ST) (V : RoadKit.Fld Z h x ST "value" "[B" v0) (C : RoadKit.Fld Z h x ST "coder" "B" c0) (K : RoadKit.Arr Z h b A .char) (hty : Typed .char A) (S : RoadKit.Sta Z h ST "COMPACT_STRINGS" "Z" (.int z)) (hz : ¬ z = 0)
    (l0 : 0 < A.slots.size) (l2 : A.slots.size ≤ 536870912) (hp : ∀ i, i < A.slots.size → ¬ 255 < cv A i) (hfr : 4 ≤ R.frames) (hlo : W + 65 ≤ R.locals) :
    Back l R p e below s args New1.yN len W (fun P a => a = #[.ref x, .ref b] ∧ P.U.heap = h ∧ P.cells + 1 ≤ R.cells ∧ P.slots + A.slots.size ≤ R.slots)
      (fun P _ v B => ∃ L, Q Z x A h v B.U.heap L ∧ B.locs = P.locs ++ L ∧ B.cells = P.cells + 1 ∧ B.slots = P.slots + A.slots.size) := by
  intro m meth c P g ig mk a X hg hsize hdg hW hn hp'
  obtain ⟨rfl, rfl, r1, r2⟩ := hp'
  have al : Z.vm.Alike P.U.vm := hZ.alike.trans X.warmed.alike
  obtain ⟨D, cfV, kV, iV, fV, hD, gV, stV, knV, obV, asV, slV⟩ := id V
  obtain ⟨D', cfC, kC, iC, fC, hD', gC, stC, -, -, asC, slC⟩ := id C
  cases hD.symm.trans hD'
  obtain ⟨D2, kD, e1, e2, e3, e4, e5⟩ := id E
  cases hD.symm.trans e1
  obtain ⟨c2, k2, i1, i2, i3, -⟩ := Cond.instantiable_spec wi
  cases e2.symm.trans i1
  cases e3.symm.trans i2
  obtain ⟨kU, u1, u2⟩ := al.2.2 _ _ e3
  have hB : Blank ST x D P.U := ⟨hD, ⟨knV, fun q hq => by rw [hq] at obV; cases obV⟩, by rw [al.findClass]; exact e2, kU, u1, by rw [u2]; exact i3, by rw [u2]; exact e5 i3⟩
  have F1 : Found ST "value" "[B" fV P.U := ⟨SBG.found_only al ⟨cfV, kV, iV, gV⟩, stV⟩
  have F2 : Found ST "coder" "B" fC P.U := ⟨SBG.found_only al ⟨cfC, kC, iC, gC⟩, stC⟩
  have hA : Ch b A P.U := ⟨⟨K.1, State.isArrayOf_alike al K.2.1, K.2.2, by omega⟩, hty⟩
  have hS : StaticIs P.U ST "COMPACT_STRINGS" "Z" (.int z) := by
    obtain ⟨cfS, iS, kS, fS, st, cS, t1, t2, t3, t4, t5, t6, t7⟩ := S
    exact StaticIs.there (s := { Z with heap := P.U.heap }) ⟨cfS, iS, kS, fS, st, cS, t1, t2, t3, t4, t5, (fun q => by rw [q] at t6; cases t6), t7⟩ al rfl
  obtain ⟨v, B, X', ⟨⟨hv, E', V', q1, q2, q3, q4, q5, q6, q7, q8, q9, q10, q11⟩, hl, hc, hs⟩, st⟩ := New1.pays x D fV fC b A z (tab_of (moved hZ hw)) hfr hlo m meth c P g ig mk _ X hg hsize hdg hW hn ⟨r1, r2, rfl, hB, F1, F2, hA, hS, hz, l0, l2, hp⟩
  have al' : Z.vm.Alike B.U.vm := hZ.alike.trans X'.warmed.alike
  have hsz : E'.slots.size = D.slots.size := by
    obtain ⟨-, -, -, kB, w1, w2, w3⟩ := q1
    obtain ⟨kB', y1, y2⟩ := al'.2.2 _ _ e3
    rw [q2.2.1] at w1
    cases w1.symm.trans y1
    rw [w3, e5 i3, y2]
  refine ⟨v, B, X', ⟨_, ⟨hv, ?_, ⟨by omega, fun y cy hy hn' => q10 y cy (by simpa using hn') hy, fun y cy hy => ?_⟩, q11, ⟨E', _, q1.1, by rw [q2.2.1]; exact e2, by rw [q2.2.1]; exact e3, by rw [q2.1]; exact obV, fun _ => by rw [hsz]; exact e5 i3⟩,
    ⟨E', cfV, kV, iV, fV, q1.1, gV, stV, by rw [q2.1]; exact knV, by rw [q2.1]; exact obV, by rw [q2.2.1]; exact asV, q3⟩, ⟨E', cfC, kC, iC, fC, q1.1, gC, stC, by rw [q2.1]; exact knV, by rw [q2.1]; exact obV, by rw [q2.2.1]; exact asC, q4⟩,
    ⟨V', ⟨q5.1, State.isArrayOf_alike al'.symm q5.2.1, q5.2.2.1⟩, q6, by rw [← al'.findClass]; exact q7, q8, fun j hj => by have := q9 j hj; rwa [Nat.zero_add] at this⟩, fun O n d w F n1 n2 => ?_⟩, hl, hc, hs⟩, st⟩
  · intro y hy
    simp only [List.mem_cons, List.not_mem_nil, or_false] at hy
    rcases hy with rfl | rfl <;> rfl
  · by_cases q : y = x
    · subst q
      cases hD.symm.trans hy
      exact ⟨E', q1.1, q2.2.1, q2.1, hsz⟩
    · exact ⟨cy, q10 y cy q hy, rfl, rfl, rfl⟩
  · obtain ⟨D3, cf, k, i, f, g1, g2, g3, g4, g5, g6, g7⟩ := F
    cases hD.symm.trans g1
    simp only [RoadKit.slotOf, g2, gV, gC, Option.map_some, Option.getD_some] at n1 n2
    exact ⟨E', cf, k, i, f, q1.1, g2, g3, by rw [q2.1]; exact g4, by rw [q2.1]; exact g5, by rw [q2.2.1]; exact g6, by rw [q2.2.2 f.slot (by simp [n1, n2])]; exact g7⟩
end StrChars.Road
namespace StrChars.Road
open Jvm Sem ClassFile Op Lib Jvm.Stand Jvm.Free Jvm.Free.XT
/-- WHAT COMES BACK, the byte[] as a list of values -/
def QA (Z : State) (x : Addr) (zn : Int32) (cs : List Int32) (h : Heap) (v : Option Value) (h' : Heap) (L : List Loc) : Prop := v = none ∧ (∀ y ∈ L, y.base = x) ∧ RoadKit.Keep h h' [x] ∧ h'.size = h.size + 1 ∧ RoadKit.Exa Z h' x ST ∧ RoadKit.Fld Z h' x ST "value" "[B" (.ref h.size) ∧ RoadKit.Fld Z h' x ST "coder" "B" (.int 0) ∧
  (∃ kb, Z.vm.findClass "[B" = some kb ∧ RoadKit.Arv Z h' h.size kb .byte zn (cs.map fun c => .int (lo8 c)) (.int 0)) ∧
  ∀ (O n d : String) (w : Value), RoadKit.Fld Z h x O n d w → RoadKit.slotOf Z O n d ≠ RoadKit.slotOf Z ST "value" "[B" → RoadKit.slotOf Z O n d ≠ RoadKit.slotOf Z ST "coder" "B" → RoadKit.Fld Z h' x O n d w
/-- **new String(chars) AT A CALL, THE ARRAYS AS LISTS**: the char[] at b holds cs, not empty, no char above 255 -/
theorem backArv {p : Program} {l : Launch} {e : Env} {R : Room} {s : State} {args : Array Value} {below : List Frame} {len W : Nat} {Z : State} {a0 : Array Value} {h : Heap} (hZ : Z.Warmed39 s.vm) (hw : ∀ d ∈ words, d.before a0 Z = true) {kI : Nat} (wi : (Jvm.Cond.instantiable ST kI).before a0 Z = true)
    {x b : Addr} {k : ClassId} {zn z : Int32} {cs : List Int32} {dv v0 c0 : Value} (E : RoadKit.Exa Z h x ST) (V : RoadKit.Fld Z h x ST "value" "[B" v0) (C : RoadKit.Fld Z h x ST "coder" "B" c0) (K : RoadKit.Arv Z h b k .char zn (cs.map Value.int) dv) (S : RoadKit.Sta Z h ST "COMPACT_STRINGS" "Z" (.int z)) (hz : ¬ z = 0)
    (hlen : zn.toNatClampNeg = cs.length) (h0 : 0 < cs.length) (hbig : cs.length ≤ 536870912) (hall : ∀ c ∈ cs, ¬ 255 < c) (hfr : 4 ≤ R.frames) (hlo : W + 65 ≤ R.locals) :
    Back l R p e below s args New1.yN len W (fun P a => a = #[.ref x, .ref b] ∧ P.U.heap = h ∧ P.cells + 1 ≤ R.cells ∧ P.slots + cs.length ≤ R.slots)
      (fun P _ v B => ∃ L, QA Z x zn cs h v B.U.heap L ∧ B.locs = P.locs ++ L ∧ B.cells = P.cells + 1 ∧ B.slots = P.slots + cs.length) := by
  obtain ⟨A, K1, K2, K3, K4, K5, K6⟩ := K
  have e : A.slots.size = cs.length := K3.trans hlen
  have hat : ∀ (i : Nat) (hi : i < cs.length), A.slots[i]? = some (.int cs[i]) := fun i hi => by rw [K5 i (by omega)]; simp [List.getD_eq_getElem?_getD, hi]
  have hcv : ∀ (i : Nat) (hi : i < cs.length), cv A i = cs[i] := fun i hi => by unfold cv; rw [hat i hi]
  have hty : Typed .char A := fun i v hv => by
    have hi : i < A.slots.size := (Array.getElem?_eq_some_iff.mp hv).1
    have q := K5 i hi
    rw [hv] at q
    rw [Option.some.inj q]
    exact K6 i hi
  refine Back.mono (back hZ hw wi E V C K1 hty S hz (by omega) (by omega) (fun i hi => by rw [hcv i (by omega)]; exact hall _ (List.getElem_mem _)) hfr hlo) (fun P a hp => ⟨hp.1, hp.2.1, hp.2.2.1, by rw [e]; exact hp.2.2.2⟩) (fun P a v B hp hq => ?_)
  obtain ⟨L, ⟨q1, q2, q3, q4, q5, q6, q7, ⟨V', v1, v2, v3, v4, v5⟩, q9⟩, hl, hc, hs⟩ := hq
  refine ⟨L, ⟨q1, q2, q3, q4, q5, q6, q7, ⟨V'.cls, v3, V', v1, rfl, by rw [v4, e, hlen], K4, fun i hi => ?_, fun i hi => ?_⟩, q9⟩, hl, hc, by rw [hs, e]⟩
  · have hi' : i < cs.length := by omega
    rw [v5 i (by omega), hcv i hi']; simp [List.getD_eq_getElem?_getD, hi']
  · have hi' : i < cs.length := by omega
    simp only [List.getD_eq_getElem?_getD, List.getElem?_map, List.getElem?_eq_getElem hi', Option.map_some, Option.getD_some]
    exact fits_lo8 _
end StrChars.Road
namespace StrChars.Road
open Jvm Sem ClassFile Op Lib Jvm.Stand Jvm.Free Jvm.Free.XT
/-- WHAT COMES BACK, in the writer's own shape -/
def QV (Z : State) (x : Addr) (N : Int32) (bs : List Int32) (h : Heap) (n0 : Nat) (v : Option Value) (h' : Heap) (L : List Loc) : Prop := v = none ∧ RoadKit.Fr n0 L ∧ RoadKit.Keep h h' [x] ∧ RoadKit.Exa Z h' x ST ∧ RoadKit.Fld Z h' x ST "coder" "B" (.int 0) ∧
  ∃ (t : Addr) (kb : ClassId), n0 ≤ t ∧ h.size ≤ t ∧ ¬ t = x ∧ RoadKit.Fld Z h' x ST "value" "[B" (.ref t) ∧ RoadKit.Arv Z h' t kb .byte N (bs.map Value.int) (.int 0)
/-- **new String(chars) AT A CALL, FOR THE WRITER**: a char[] of n known ints, each 0 to 255 -/
theorem backV {p : Program} {l : Launch} {e : Env} {R : Room} {s : State} {args : Array Value} {below : List Frame} {len W : Nat} {Z : State} {a0 : Array Value} {h : Heap} (hZ : Z.Warmed39 s.vm) (hw : ∀ d ∈ words, d.before a0 Z = true) {kI : Nat} (wi : (Jvm.Cond.instantiable ST kI).before a0 Z = true)
    {x b : Addr} {kC : ClassId} {cs bs : List Int32} {d v0 c0 : Value} {z N : Int32} {n n0 : Nat} (hx0 : n0 ≤ x) (hh0 : n0 ≤ h.size) (E : RoadKit.Exa Z h x ST) (V : RoadKit.Fld Z h x ST "value" "[B" v0) (C : RoadKit.Fld Z h x ST "coder" "B" c0) (K : RoadKit.Arv Z h b kC .char N (cs.map Value.int) d) (S : RoadKit.Sta Z h ST "COMPACT_STRINGS" "Z" (.int z)) (hz : ¬ z = 0)
    (hn : cs.length = n) (hN : N = Int32.ofNat n) (l0 : 0 < n) (l2 : n ≤ 4000) (hp : ∀ c ∈ cs, ¬ c < 0 ∧ ¬ (255 : Int32) < c) (hb : bs = cs.map (fun c => c.toInt8.toInt32)) (hfr : 4 ≤ R.frames) (hlo : W + 65 ≤ R.locals) :
    Back l R p e below s args (⟨"java/lang/String", "<init>", "([C)V"⟩ : MethodName) len W (fun P a => a = #[.ref x, .ref b] ∧ P.U.heap = h ∧ P.cells + 1 ≤ R.cells ∧ P.slots + n ≤ R.slots)
      (fun P _ v B => ∃ L, QV Z x N bs h n0 v B.U.heap L ∧ B.locs = P.locs ++ L ∧ B.cells = P.cells + 1 ∧ B.slots = P.slots + n) := by
  subst hn hN hb
  refine Back.mono (backArv hZ hw wi E V C K S hz (n32 (by omega)) l0 (by omega) (fun c hc => (hp c hc).2) hfr hlo) (fun P a hp => hp) (fun P a v B hp hq => ?_)
  obtain ⟨L, ⟨q1, q2, q3, q4, q5, q6, q7, ⟨kb, v1, v2⟩, q9⟩, hl, hc, hs⟩ := hq
  exact ⟨L, ⟨q1, fun y hy => by rw [q2 y hy]; exact hx0, q3, q5, q7, h.size, kb, hh0, Nat.le_refl _, Nat.ne_of_gt E.lt, q6, by rw [List.map_map]; exact v2⟩, hl, hc, hs⟩
end StrChars.Road
end Jvm.Pilot.@@N@@

namespace Jvm.RoadKit
open Sem ClassFile Op Lib Jvm.Stand Jvm.Free Jvm.LawKit
section New
variable {p : Program} {l : Launch} {e : Env} {R : Room} {s : State} {m : MethodId} {args : Array Value} {below : List Frame} {meth : Method} {c : Code} {T : State} {locs : List Loc} {cells slots : Nat}
theorem retI (X : Stand p l e R s m args below meth c T locs cells slots) (hx : p.tables.exec = Jvm.exec) {pc : Nat} {Ls : Array Slot} {z : Int32} {rest : List Value} (hret : meth.sig.returnType = some .int) (hd : decode c.code pc = .ok (.ireturn, 1)) {fs : List Frame}
    (hl : ∀ (f : JFrame) (acts : List Action), f.method = m → f.locked = none → f.entered = [] → (doReturn e (T.setTop f) acts (some (.int z))).1 = T.setFrames fs) : Steps p.tables e below (T.setTop (mkF m pc Ls (.int z :: rest))) (T.setFrames fs) := by
  have hm' : T.vm.method? m = some meth := X.method'
  have hn : narrow .int (.int z) = .int z := rfl
  show Steps p.tables e below (T.setTop { method := m, pc := pc, locals := Ls, stack := _ :: rest, locked := none }) _
  jvm_step X.here [X.here.top, hx, hd, hm', hret, hn]
  first | (intro acts; rw [hl _ acts rfl rfl rfl]) | rw [hl _ _ rfl rfl rfl]
  exact Steps.refl _
end New
end Jvm.RoadKit
namespace Jvm.Pilot.@@N@@
open Jvm Jvm.ClassFile Sem Op Lib Jvm.Free Jvm.Stand Jvm.LawKit Jvm.RoadKit Bundle Jvm.Pilot.@@N@@.Jvm.D
/-! ## Go: a walk as a proposition, read backwards -/
def Cx (p : Program) (s : State) (m : MethodId) (meth : Method) (c : Code) (Z : State) (own nm : String) (code : ByteArray) (ml : Nat) (ret : Option FieldType) : Prop :=
  p.tables.exec = Jvm.exec ∧ c.code = code ∧ c.maxLocals = ml ∧ s.vm.findClass own = some m.cls ∧ Z.Warmed39 s.vm ∧ meth.name = nm ∧ meth.sig.returnType = ret ∧ meth.locks = false
def Go (p : Program) (l : Launch) (e : Env) (R : Room) (s : State) (m : MethodId) (args : Array Value) (below : List Frame) (meth : Method) (c : Code) (Ph : State → Option Value → Prop) (n0 : Nat) (h : Heap) (k n : Nat) (pc : Nat) (Ls : Array Slot) (st : List Value) : Prop :=
  ∀ T locs, Stand p l e R s m args below meth c T locs k n → Fr n0 locs → T.heap = h → ∃ s₂ v, Steps p.tables e below (T.setTop (mkF m pc Ls st)) s₂ ∧ Ph s₂ v
section GoRules
variable {p : Program} {l : Launch} {e : Env} {R : Room} {s : State} {m : MethodId} {args : Array Value} {below : List Frame} {meth : Method} {c : Code} {Ph : State → Option Value → Prop} {n0 : Nat} {h : Heap} {k n : Nat} {pc q : Nat} {Ls : Array Slot} {st rest : List Value} {Z : State} {a0 : Array Value} {own nm : String} {code : ByteArray} {ml : Nat} {ret : Option FieldType}
theorem Go.pl {pc' : Nat} {Ls' : Array Slot} {st' : List Value} (H : ∀ (T target : State), At T m c below → Steps p.tables e below (T.setTop (mkF m pc' Ls' st')) target → Steps p.tables e below (T.setTop (mkF m pc Ls st)) target) (K : Go p l e R s m args below meth c Ph n0 h k n pc' Ls' st') : Go p l e R s m args below meth c Ph n0 h k n pc Ls st :=
  fun T locs X N eT => by obtain ⟨s₂, v, S, r⟩ := K T locs X N eT; exact ⟨s₂, v, H T s₂ X.here S, r⟩
theorem Go.more {k' n' : Nat} (hk : k ≤ k') (hn : n ≤ n') (K : Go p l e R s m args below meth c Ph n0 h k' n' pc Ls st) : Go p l e R s m args below meth c Ph n0 h k n pc Ls st := fun T locs X N eT => K T locs (X.loosen hk hn) N eT
theorem Go.low {n1 : Nat} (hn : n0 ≤ n1) (K : Go p l e R s m args below meth c Ph n0 h k n pc Ls st) : Go p l e R s m args below meth c Ph n1 h k n pc Ls st := fun T locs X N eT => K T locs X (fun y hy => Nat.le_trans hn (N y hy)) eT
theorem Go.join {pc' : Nat} {Ls' : Array Slot} {st' : List Value} (J : Go p l e R s m args below meth c Ph n0 h k n pc' Ls' st') (K : Go p l e R s m args below meth c Ph n0 h k n pc' Ls' st' → Go p l e R s m args below meth c Ph n0 h k n pc Ls st) : Go p l e R s m args below meth c Ph n0 h k n pc Ls st := K J
theorem Go.joinR {α : Sort _} {pc' : Nat} (P' : α → Prop) (Ls' : α → Array Slot) (st' : α → List Value) (J : ∀ r, P' r → Go p l e R s m args below meth c Ph n0 h k n pc' (Ls' r) (st' r)) (K : (∀ r, P' r → Go p l e R s m args below meth c Ph n0 h k n pc' (Ls' r) (st' r)) → Go p l e R s m args below meth c Ph n0 h k n pc Ls st) : Go p l e R s m args below meth c Ph n0 h k n pc Ls st := K J
theorem Go.cast {pc' : Nat} {Ls' : Array Slot} {st' : List Value} (e1 : pc' = pc) (e2 : Ls' = Ls) (e3 : st' = st) (K : Go p l e R s m args below meth c Ph n0 h k n pc' Ls' st') : Go p l e R s m args below meth c Ph n0 h k n pc Ls st := by subst e1 e2 e3; exact K
theorem g_iloadN (C : Cx p s m meth c Z own nm code ml ret) {i : Fin 4} {v : Int32} (d : decode code pc = .ok (.iload_n i, 1)) (hl : Ls[i.val]? = some (.val (.int v))) (hq : pc + 1 = q) (K : Go p l e R s m args below meth c Ph n0 h k n q Ls (.int v :: st)) : Go p l e R s m args below meth c Ph n0 h k n pc Ls (st) :=
  Go.pl (fun T t A S => XS.iloadN A C.1 rfl (hb C.2.1 d) hl (by subst hq; exact S)) K
theorem g_iload (C : Cx p s m meth c Z own nm code ml ret) {i : Nat} {v : Int32} (d : decode code pc = .ok (.iload i, 2)) (hl : Ls[i]? = some (.val (.int v))) (hq : pc + 2 = q) (K : Go p l e R s m args below meth c Ph n0 h k n q Ls (.int v :: st)) : Go p l e R s m args below meth c Ph n0 h k n pc Ls (st) :=
  Go.pl (fun T t A S => XS.iload A C.1 rfl (hb C.2.1 d) hl (by subst hq; exact S)) K
theorem g_istoreN (C : Cx p s m meth c Z own nm code ml ret) {i : Fin 4} {v : Int32} {L' : Array Slot} (d : decode code pc = .ok (.istore_n i, 1))  (hl : storeLocals Ls i.val (.int v) = some L') (hq : pc + 1 = q) (K : Go p l e R s m args below meth c Ph n0 h k n q L' (st)) : Go p l e R s m args below meth c Ph n0 h k n pc Ls (.int v :: st) :=
  Go.pl (fun T t A S => XS.istoreN A C.1 rfl (hb C.2.1 d) rfl hl (by subst hq; exact S)) K
theorem g_istore (C : Cx p s m meth c Z own nm code ml ret) {i : Nat} {v : Int32} {L' : Array Slot} (d : decode code pc = .ok (.istore i, 2))  (hl : storeLocals Ls i (.int v) = some L') (hq : pc + 2 = q) (K : Go p l e R s m args below meth c Ph n0 h k n q L' (st)) : Go p l e R s m args below meth c Ph n0 h k n pc Ls (.int v :: st) :=
  Go.pl (fun T t A S => XS.istore A C.1 rfl (hb C.2.1 d) rfl hl (by subst hq; exact S)) K
theorem g_lloadN (C : Cx p s m meth c Z own nm code ml ret) {i : Fin 4} {v : Int64} (d : decode code pc = .ok (.lload_n i, 1)) (hl : Ls[i.val]? = some (.val (.long v))) (hq : pc + 1 = q) (K : Go p l e R s m args below meth c Ph n0 h k n q Ls (.long v :: st)) : Go p l e R s m args below meth c Ph n0 h k n pc Ls (st) :=
  Go.pl (fun T t A S => XT.lloadN A C.1 rfl (hb C.2.1 d) hl (by subst hq; exact S)) K
theorem g_lload (C : Cx p s m meth c Z own nm code ml ret) {i : Nat} {v : Int64} (d : decode code pc = .ok (.lload i, 2)) (hl : Ls[i]? = some (.val (.long v))) (hq : pc + 2 = q) (K : Go p l e R s m args below meth c Ph n0 h k n q Ls (.long v :: st)) : Go p l e R s m args below meth c Ph n0 h k n pc Ls (st) :=
  Go.pl (fun T t A S => XT.lload A C.1 rfl (hb C.2.1 d) hl (by subst hq; exact S)) K
theorem g_lstoreN (C : Cx p s m meth c Z own nm code ml ret) {i : Fin 4} {v : Int64} {L' : Array Slot} (d : decode code pc = .ok (.lstore_n i, 1))  (hl : storeLocals Ls i.val (.long v) = some L') (hq : pc + 1 = q) (K : Go p l e R s m args below meth c Ph n0 h k n q L' (st)) : Go p l e R s m args below meth c Ph n0 h k n pc Ls (.long v :: st) :=
  Go.pl (fun T t A S => XT.lstoreN A C.1 rfl (hb C.2.1 d) rfl hl (by subst hq; exact S)) K
theorem g_lstore (C : Cx p s m meth c Z own nm code ml ret) {i : Nat} {v : Int64} {L' : Array Slot} (d : decode code pc = .ok (.lstore i, 2))  (hl : storeLocals Ls i (.long v) = some L') (hq : pc + 2 = q) (K : Go p l e R s m args below meth c Ph n0 h k n q L' (st)) : Go p l e R s m args below meth c Ph n0 h k n pc Ls (.long v :: st) :=
  Go.pl (fun T t A S => XT.lstore A C.1 rfl (hb C.2.1 d) rfl hl (by subst hq; exact S)) K
theorem g_aloadN (C : Cx p s m meth c Z own nm code ml ret) {i : Fin 4} {v : Value} (d : decode code pc = .ok (.aload_n i, 1)) (hl : Ls[i.val]? = some (.val v)) (hv : v.isRef = true) (hq : pc + 1 = q) (K : Go p l e R s m args below meth c Ph n0 h k n q Ls (v :: st)) : Go p l e R s m args below meth c Ph n0 h k n pc Ls (st) :=
  Go.pl (fun T t A S => XS.aloadN A C.1 rfl (hb C.2.1 d) hl hv (by subst hq; exact S)) K
theorem g_aload (C : Cx p s m meth c Z own nm code ml ret) {i : Nat} {v : Value} (d : decode code pc = .ok (.aload i, 2)) (hl : Ls[i]? = some (.val v)) (hv : v.isRef = true) (hq : pc + 2 = q) (K : Go p l e R s m args below meth c Ph n0 h k n q Ls (v :: st)) : Go p l e R s m args below meth c Ph n0 h k n pc Ls (st) :=
  Go.pl (fun T t A S => XS.aload A C.1 rfl (hb C.2.1 d) hl hv (by subst hq; exact S)) K
theorem g_astoreN (C : Cx p s m meth c Z own nm code ml ret) {i : Fin 4} {v : Value} {L' : Array Slot} (d : decode code pc = .ok (.astore_n i, 1))  (hv : v.isRef = true) (hl : storeLocals Ls i.val (v) = some L') (hq : pc + 1 = q) (K : Go p l e R s m args below meth c Ph n0 h k n q L' (st)) : Go p l e R s m args below meth c Ph n0 h k n pc Ls (v :: st) :=
  Go.pl (fun T t A S => XS.astoreN A C.1 rfl (hb C.2.1 d) rfl hv hl (by subst hq; exact S)) K
theorem g_astore (C : Cx p s m meth c Z own nm code ml ret) {i : Nat} {v : Value} {L' : Array Slot} (d : decode code pc = .ok (.astore i, 2))  (hv : v.isRef = true) (hl : storeLocals Ls i (v) = some L') (hq : pc + 2 = q) (K : Go p l e R s m args below meth c Ph n0 h k n q L' (st)) : Go p l e R s m args below meth c Ph n0 h k n pc Ls (v :: st) :=
  Go.pl (fun T t A S => XS.astore A C.1 rfl (hb C.2.1 d) rfl hv hl (by subst hq; exact S)) K
theorem g_iinc (C : Cx p s m meth c Z own nm code ml ret) {i : Nat} {cst : Int} {v : Int32} {L' : Array Slot} (d : decode code pc = .ok (.iinc i cst, 3)) (hl : Ls[i]? = some (.val (.int v))) (hl' : storeLocals Ls i (.int (v + Int32.ofInt cst)) = some L') (hq : pc + 3 = q) (K : Go p l e R s m args below meth c Ph n0 h k n q L' (st)) : Go p l e R s m args below meth c Ph n0 h k n pc Ls (st) :=
  Go.pl (fun T t A S => XS.iinc A C.1 rfl (hb C.2.1 d) hl hl' (by subst hq; exact S)) K
theorem g_iconst (C : Cx p s m meth c Z own nm code ml ret) {i : Int} {z : Int32} (d : decode code pc = .ok (.iconst i, 1)) (hz : Int32.ofInt i = z) (hq : pc + 1 = q) (K : Go p l e R s m args below meth c Ph n0 h k n q Ls (.int z :: st)) : Go p l e R s m args below meth c Ph n0 h k n pc Ls st :=
  Go.pl (fun T t A S => XS.iconst A C.1 rfl (hb C.2.1 d) (by subst hq hz; exact S)) K
theorem g_bipush (C : Cx p s m meth c Z own nm code ml ret) {i : Int} {z : Int32} (d : decode code pc = .ok (.bipush i, 2)) (hz : (Int8.ofInt i).toInt32 = z) (hq : pc + 2 = q) (K : Go p l e R s m args below meth c Ph n0 h k n q Ls (.int z :: st)) : Go p l e R s m args below meth c Ph n0 h k n pc Ls st :=
  Go.pl (fun T t A S => XS.bipush A C.1 rfl (hb C.2.1 d) (by subst hq hz; exact S)) K
theorem g_sipush (C : Cx p s m meth c Z own nm code ml ret) {i : Int} {z : Int32} (d : decode code pc = .ok (.sipush i, 3)) (hz : (Int16.ofInt i).toInt32 = z) (hq : pc + 3 = q) (K : Go p l e R s m args below meth c Ph n0 h k n q Ls (.int z :: st)) : Go p l e R s m args below meth c Ph n0 h k n pc Ls st :=
  Go.pl (fun T t A S => XS.sipush A C.1 rfl (hb C.2.1 d) (by subst hq hz; exact S)) K
theorem g_lconst (C : Cx p s m meth c Z own nm code ml ret) {i : Fin 2} {z : Int64} (d : decode code pc = .ok (.lconst i, 1)) (hz : Int64.ofNat i = z) (hq : pc + 1 = q) (K : Go p l e R s m args below meth c Ph n0 h k n q Ls (.long z :: st)) : Go p l e R s m args below meth c Ph n0 h k n pc Ls st :=
  Go.pl (fun T t A S => XT.lconst A C.1 rfl (hb C.2.1 d) (by subst hq hz; exact S)) K
theorem g_aconst_null (C : Cx p s m meth c Z own nm code ml ret)  (d : decode code pc = .ok (.aconst_null, 1))  (hq : pc + 1 = q) (K : Go p l e R s m args below meth c Ph n0 h k n q Ls (.null :: st)) : Go p l e R s m args below meth c Ph n0 h k n pc Ls (st) :=
  Go.pl (fun T t A S => XS.aconstNull A C.1 rfl (hb C.2.1 d)  (by subst hq; exact S)) K
theorem g_dup (C : Cx p s m meth c Z own nm code ml ret) {x : Value} (d : decode code pc = .ok (.dup, 1)) (hc : x.category = 1) (hq : pc + 1 = q) (K : Go p l e R s m args below meth c Ph n0 h k n q Ls (x :: x :: st)) : Go p l e R s m args below meth c Ph n0 h k n pc Ls (x :: st) :=
  Go.pl (fun T t A S => XS.dup A C.1 rfl (hb C.2.1 d) rfl hc (by subst hq; exact S)) K
theorem g_pop (C : Cx p s m meth c Z own nm code ml ret) {x : Value} (d : decode code pc = .ok (.pop, 1)) (hc : x.category = 1) (hq : pc + 1 = q) (K : Go p l e R s m args below meth c Ph n0 h k n q Ls (st)) : Go p l e R s m args below meth c Ph n0 h k n pc Ls (x :: st) :=
  Go.pl (fun T t A S => XT.pop A C.1 rfl (hb C.2.1 d) rfl hc (by subst hq; exact S)) K
theorem g_dup_x1 (C : Cx p s m meth c Z own nm code ml ret) {x y : Value} (d : decode code pc = .ok (.dup_x1, 1)) (hc : x.category = 1) (hc' : y.category = 1) (hq : pc + 1 = q) (K : Go p l e R s m args below meth c Ph n0 h k n q Ls (x :: y :: x :: st)) : Go p l e R s m args below meth c Ph n0 h k n pc Ls (x :: y :: st) :=
  Go.pl (fun T t A S => XT.dupX1 A C.1 rfl (hb C.2.1 d) rfl hc hc' (by subst hq; exact S)) K
theorem g_dup2 (C : Cx p s m meth c Z own nm code ml ret) {x y : Value} (d : decode code pc = .ok (.dup2, 1)) (hc : x.category = 1) (hc' : y.category = 1) (hq : pc + 1 = q) (K : Go p l e R s m args below meth c Ph n0 h k n q Ls (x :: y :: x :: y :: st)) : Go p l e R s m args below meth c Ph n0 h k n pc Ls (x :: y :: st) :=
  Go.pl (fun T t A S => XT.dup2 A C.1 rfl (hb C.2.1 d) rfl hc hc' (by subst hq; exact S)) K
theorem g_dup2L (C : Cx p s m meth c Z own nm code ml ret) {x : Int64} (d : decode code pc = .ok (.dup2, 1))  (hq : pc + 1 = q) (K : Go p l e R s m args below meth c Ph n0 h k n q Ls (.long x :: .long x :: st)) : Go p l e R s m args below meth c Ph n0 h k n pc Ls (.long x :: st) :=
  Go.pl (fun T t A S => XT.dup2L A C.1 rfl (hb C.2.1 d) rfl (by subst hq; exact S)) K
theorem g_iadd (C : Cx p s m meth c Z own nm code ml ret) {x y : Int32} (d : decode code pc = .ok (.iadd, 1))  (hq : pc + 1 = q) (K : Go p l e R s m args below meth c Ph n0 h k n q Ls (.int (x + y) :: st)) : Go p l e R s m args below meth c Ph n0 h k n pc Ls (.int y :: .int x :: st) :=
  Go.pl (fun T t A S => XS.iadd A C.1 rfl (hb C.2.1 d) rfl (by subst hq; exact S)) K
theorem g_isub (C : Cx p s m meth c Z own nm code ml ret) {x y : Int32} (d : decode code pc = .ok (.isub, 1))  (hq : pc + 1 = q) (K : Go p l e R s m args below meth c Ph n0 h k n q Ls (.int (x - y) :: st)) : Go p l e R s m args below meth c Ph n0 h k n pc Ls (.int y :: .int x :: st) :=
  Go.pl (fun T t A S => XS.isub A C.1 rfl (hb C.2.1 d) rfl (by subst hq; exact S)) K
theorem g_imul (C : Cx p s m meth c Z own nm code ml ret) {x y : Int32} (d : decode code pc = .ok (.imul, 1))  (hq : pc + 1 = q) (K : Go p l e R s m args below meth c Ph n0 h k n q Ls (.int (x * y) :: st)) : Go p l e R s m args below meth c Ph n0 h k n pc Ls (.int y :: .int x :: st) :=
  Go.pl (fun T t A S => XS.imul A C.1 rfl (hb C.2.1 d) rfl (by subst hq; exact S)) K
theorem g_iand (C : Cx p s m meth c Z own nm code ml ret) {x y : Int32} (d : decode code pc = .ok (.iand, 1))  (hq : pc + 1 = q) (K : Go p l e R s m args below meth c Ph n0 h k n q Ls (.int (x &&& y) :: st)) : Go p l e R s m args below meth c Ph n0 h k n pc Ls (.int y :: .int x :: st) :=
  Go.pl (fun T t A S => XS.iand A C.1 rfl (hb C.2.1 d) rfl (by subst hq; exact S)) K
theorem g_ior (C : Cx p s m meth c Z own nm code ml ret) {x y : Int32} (d : decode code pc = .ok (.ior, 1))  (hq : pc + 1 = q) (K : Go p l e R s m args below meth c Ph n0 h k n q Ls (.int (x ||| y) :: st)) : Go p l e R s m args below meth c Ph n0 h k n pc Ls (.int y :: .int x :: st) :=
  Go.pl (fun T t A S => XT.ior A C.1 rfl (hb C.2.1 d) rfl (by subst hq; exact S)) K
theorem g_ixor (C : Cx p s m meth c Z own nm code ml ret) {x y : Int32} (d : decode code pc = .ok (.ixor, 1))  (hq : pc + 1 = q) (K : Go p l e R s m args below meth c Ph n0 h k n q Ls (.int (x ^^^ y) :: st)) : Go p l e R s m args below meth c Ph n0 h k n pc Ls (.int y :: .int x :: st) :=
  Go.pl (fun T t A S => XT.ixor A C.1 rfl (hb C.2.1 d) rfl (by subst hq; exact S)) K
theorem g_ishl (C : Cx p s m meth c Z own nm code ml ret) {x y : Int32} (d : decode code pc = .ok (.ishl, 1))  (hq : pc + 1 = q) (K : Go p l e R s m args below meth c Ph n0 h k n q Ls (.int (x <<< (y &&& 31)) :: st)) : Go p l e R s m args below meth c Ph n0 h k n pc Ls (.int y :: .int x :: st) :=
  Go.pl (fun T t A S => XT.ishl A C.1 rfl (hb C.2.1 d) rfl (by subst hq; exact S)) K
theorem g_ishr (C : Cx p s m meth c Z own nm code ml ret) {x y : Int32} (d : decode code pc = .ok (.ishr, 1))  (hq : pc + 1 = q) (K : Go p l e R s m args below meth c Ph n0 h k n q Ls (.int (x >>> (y &&& 31)) :: st)) : Go p l e R s m args below meth c Ph n0 h k n pc Ls (.int y :: .int x :: st) :=
  Go.pl (fun T t A S => XT.ishr A C.1 rfl (hb C.2.1 d) rfl (by subst hq; exact S)) K
theorem g_iushr (C : Cx p s m meth c Z own nm code ml ret) {x y : Int32} (d : decode code pc = .ok (.iushr, 1))  (hq : pc + 1 = q) (K : Go p l e R s m args below meth c Ph n0 h k n q Ls (.int (XT.ushr x y) :: st)) : Go p l e R s m args below meth c Ph n0 h k n pc Ls (.int y :: .int x :: st) :=
  Go.pl (fun T t A S => XT.iushr A C.1 rfl (hb C.2.1 d) rfl (by subst hq; exact S)) K
theorem g_idiv (C : Cx p s m meth c Z own nm code ml ret) {x y : Int32} (d : decode code pc = .ok (.idiv, 1)) (hy : y ≠ 0) (hq : pc + 1 = q) (K : Go p l e R s m args below meth c Ph n0 h k n q Ls (.int (x / y) :: st)) : Go p l e R s m args below meth c Ph n0 h k n pc Ls (.int y :: .int x :: st) :=
  Go.pl (fun T t A S => XS.idiv A C.1 rfl (hb C.2.1 d) rfl hy (by subst hq; exact S)) K
theorem g_irem (C : Cx p s m meth c Z own nm code ml ret) {x y : Int32} (d : decode code pc = .ok (.irem, 1)) (hy : y ≠ 0) (hq : pc + 1 = q) (K : Go p l e R s m args below meth c Ph n0 h k n q Ls (.int (x % y) :: st)) : Go p l e R s m args below meth c Ph n0 h k n pc Ls (.int y :: .int x :: st) :=
  Go.pl (fun T t A S => XS.irem A C.1 rfl (hb C.2.1 d) rfl hy (by subst hq; rw [irem_eq_mod x y]; exact S)) K
theorem g_ineg (C : Cx p s m meth c Z own nm code ml ret) {x : Int32} (d : decode code pc = .ok (.ineg, 1))  (hq : pc + 1 = q) (K : Go p l e R s m args below meth c Ph n0 h k n q Ls (.int (-x) :: st)) : Go p l e R s m args below meth c Ph n0 h k n pc Ls (.int x :: st) :=
  Go.pl (fun T t A S => XS.ineg A C.1 rfl (hb C.2.1 d) rfl (by subst hq; exact S)) K
theorem g_ladd (C : Cx p s m meth c Z own nm code ml ret) {x y : Int64} (d : decode code pc = .ok (.ladd, 1))  (hq : pc + 1 = q) (K : Go p l e R s m args below meth c Ph n0 h k n q Ls (.long (x + y) :: st)) : Go p l e R s m args below meth c Ph n0 h k n pc Ls (.long y :: .long x :: st) :=
  Go.pl (fun T t A S => XT.ladd A C.1 rfl (hb C.2.1 d) rfl (by subst hq; exact S)) K
theorem g_lsub (C : Cx p s m meth c Z own nm code ml ret) {x y : Int64} (d : decode code pc = .ok (.lsub, 1))  (hq : pc + 1 = q) (K : Go p l e R s m args below meth c Ph n0 h k n q Ls (.long (x - y) :: st)) : Go p l e R s m args below meth c Ph n0 h k n pc Ls (.long y :: .long x :: st) :=
  Go.pl (fun T t A S => XT.lsub A C.1 rfl (hb C.2.1 d) rfl (by subst hq; exact S)) K
theorem g_lmul (C : Cx p s m meth c Z own nm code ml ret) {x y : Int64} (d : decode code pc = .ok (.lmul, 1))  (hq : pc + 1 = q) (K : Go p l e R s m args below meth c Ph n0 h k n q Ls (.long (x * y) :: st)) : Go p l e R s m args below meth c Ph n0 h k n pc Ls (.long y :: .long x :: st) :=
  Go.pl (fun T t A S => XT.lmul A C.1 rfl (hb C.2.1 d) rfl (by subst hq; exact S)) K
theorem g_land (C : Cx p s m meth c Z own nm code ml ret) {x y : Int64} (d : decode code pc = .ok (.land, 1))  (hq : pc + 1 = q) (K : Go p l e R s m args below meth c Ph n0 h k n q Ls (.long (x &&& y) :: st)) : Go p l e R s m args below meth c Ph n0 h k n pc Ls (.long y :: .long x :: st) :=
  Go.pl (fun T t A S => XT.land A C.1 rfl (hb C.2.1 d) rfl (by subst hq; exact S)) K
theorem g_lor (C : Cx p s m meth c Z own nm code ml ret) {x y : Int64} (d : decode code pc = .ok (.lor, 1))  (hq : pc + 1 = q) (K : Go p l e R s m args below meth c Ph n0 h k n q Ls (.long (x ||| y) :: st)) : Go p l e R s m args below meth c Ph n0 h k n pc Ls (.long y :: .long x :: st) :=
  Go.pl (fun T t A S => XT.lor A C.1 rfl (hb C.2.1 d) rfl (by subst hq; exact S)) K
theorem g_lxor (C : Cx p s m meth c Z own nm code ml ret) {x y : Int64} (d : decode code pc = .ok (.lxor, 1))  (hq : pc + 1 = q) (K : Go p l e R s m args below meth c Ph n0 h k n q Ls (.long (x ^^^ y) :: st)) : Go p l e R s m args below meth c Ph n0 h k n pc Ls (.long y :: .long x :: st) :=
  Go.pl (fun T t A S => XT.lxor A C.1 rfl (hb C.2.1 d) rfl (by subst hq; exact S)) K
theorem g_lushr (C : Cx p s m meth c Z own nm code ml ret) {x : Int64} {y : Int32} (d : decode code pc = .ok (.lushr, 1))  (hq : pc + 1 = q) (K : Go p l e R s m args below meth c Ph n0 h k n q Ls (.long (XT.ushrL x y) :: st)) : Go p l e R s m args below meth c Ph n0 h k n pc Ls (.int y :: .long x :: st) :=
  Go.pl (fun T t A S => XT.lushr A C.1 rfl (hb C.2.1 d) rfl (by subst hq; exact S)) K
theorem g_lcmp (C : Cx p s m meth c Z own nm code ml ret) {x y : Int64} (d : decode code pc = .ok (.lcmp, 1))  (hq : pc + 1 = q) (K : Go p l e R s m args below meth c Ph n0 h k n q Ls (.int (XT.cmpL x y) :: st)) : Go p l e R s m args below meth c Ph n0 h k n pc Ls (.long y :: .long x :: st) :=
  Go.pl (fun T t A S => XT.lcmp A C.1 rfl (hb C.2.1 d) rfl (by subst hq; exact S)) K
theorem g_i2l (C : Cx p s m meth c Z own nm code ml ret) {x : Int32} (d : decode code pc = .ok (.i2l, 1))  (hq : pc + 1 = q) (K : Go p l e R s m args below meth c Ph n0 h k n q Ls (.long (x.toInt64) :: st)) : Go p l e R s m args below meth c Ph n0 h k n pc Ls (.int x :: st) :=
  Go.pl (fun T t A S => XT.i2l A C.1 rfl (hb C.2.1 d) rfl (by subst hq; exact S)) K
theorem g_l2i (C : Cx p s m meth c Z own nm code ml ret) {x : Int64} (d : decode code pc = .ok (.l2i, 1))  (hq : pc + 1 = q) (K : Go p l e R s m args below meth c Ph n0 h k n q Ls (.int (x.toInt32) :: st)) : Go p l e R s m args below meth c Ph n0 h k n pc Ls (.long x :: st) :=
  Go.pl (fun T t A S => XT.l2i A C.1 rfl (hb C.2.1 d) rfl (by subst hq; exact S)) K
theorem g_i2b (C : Cx p s m meth c Z own nm code ml ret) {x : Int32} (d : decode code pc = .ok (.i2b, 1))  (hq : pc + 1 = q) (K : Go p l e R s m args below meth c Ph n0 h k n q Ls (.int (x.toInt8.toInt32) :: st)) : Go p l e R s m args below meth c Ph n0 h k n pc Ls (.int x :: st) :=
  Go.pl (fun T t A S => XT.i2b A C.1 rfl (hb C.2.1 d) rfl (by subst hq; exact S)) K
theorem g_i2c (C : Cx p s m meth c Z own nm code ml ret) {x : Int32} (d : decode code pc = .ok (.i2c, 1))  (hq : pc + 1 = q) (K : Go p l e R s m args below meth c Ph n0 h k n q Ls (.int (x.toUInt32.toUInt16.toUInt32.toInt32) :: st)) : Go p l e R s m args below meth c Ph n0 h k n pc Ls (.int x :: st) :=
  Go.pl (fun T t A S => XT.i2c A C.1 rfl (hb C.2.1 d) rfl (by subst hq; exact S)) K
theorem g_i2s (C : Cx p s m meth c Z own nm code ml ret) {x : Int32} (d : decode code pc = .ok (.i2s, 1))  (hq : pc + 1 = q) (K : Go p l e R s m args below meth c Ph n0 h k n q Ls (.int (x.toInt16.toInt32) :: st)) : Go p l e R s m args below meth c Ph n0 h k n pc Ls (.int x :: st) :=
  Go.pl (fun T t A S => XT.i2s A C.1 rfl (hb C.2.1 d) rfl (by subst hq; exact S)) K
theorem g_goto (C : Cx p s m meth c Z own nm code ml ret) {o : Int} (d : decode code pc = .ok (.goto o, 3)) (ho : 0 ≤ (pc : Int) + o) (hq : ((pc : Int) + o).toNat = q) (K : Go p l e R s m args below meth c Ph n0 h k n q Ls st) : Go p l e R s m args below meth c Ph n0 h k n pc Ls st :=
  Go.pl (fun T t A S => XS.goto A C.1 rfl rfl (hb C.2.1 d) ho hq S) K
theorem g_if (C : Cx p s m meth c Z own nm code ml ret) {cd : ClassFile.Cond} {x : Int32} {o : Int} {q' : Nat} (d : decode code pc = .ok (.ifCond cd o, 3)) (ho : 0 ≤ (pc : Int) + o) (hq' : ((pc : Int) + o).toNat = q') (hq : pc + 3 = q)
    (K1 : ifCond.holds cd x = true → Go p l e R s m args below meth c Ph n0 h k n q' Ls st) (K2 : ifCond.holds cd x = false → Go p l e R s m args below meth c Ph n0 h k n q Ls st) : Go p l e R s m args below meth c Ph n0 h k n pc Ls (.int x :: st) := by
  cases hb' : ifCond.holds cd x
  · exact Go.pl (fun T t A S => XS.ifNo A C.1 rfl (hb C.2.1 d) rfl hb' (by subst hq; exact S)) (K2 hb')
  · exact Go.pl (fun T t A S => XS.ifYes A C.1 rfl rfl (hb C.2.1 d) rfl hb' ho hq' S) (K1 hb')
theorem g_icmp (C : Cx p s m meth c Z own nm code ml ret) {cd : ClassFile.Cond} {x y : Int32} {o : Int} {q' : Nat} (d : decode code pc = .ok (.if_icmp cd o, 3)) (ho : 0 ≤ (pc : Int) + o) (hq' : ((pc : Int) + o).toNat = q') (hq : pc + 3 = q)
    (K1 : if_icmp.holds cd x y = true → Go p l e R s m args below meth c Ph n0 h k n q' Ls st) (K2 : if_icmp.holds cd x y = false → Go p l e R s m args below meth c Ph n0 h k n q Ls st) : Go p l e R s m args below meth c Ph n0 h k n pc Ls (.int y :: .int x :: st) := by
  cases hb' : if_icmp.holds cd x y
  · exact Go.pl (fun T t A S => XS.icmpNo A C.1 rfl (hb C.2.1 d) rfl hb' (by subst hq; exact S)) (K2 hb')
  · exact Go.pl (fun T t A S => XS.icmpYes A C.1 rfl rfl (hb C.2.1 d) rfl hb' ho hq' S) (K1 hb')
theorem g_if_eq (C : Cx p s m meth c Z own nm code ml ret) {x : Int32} {o : Int} {q' : Nat} (d : decode code pc = .ok (.ifCond .eq o, 3)) (ho : 0 ≤ (pc : Int) + o) (hq' : ((pc : Int) + o).toNat = q') (hq : pc + 3 = q)
    (K1 : x = 0 → Go p l e R s m args below meth c Ph n0 h k n q' Ls st) (K2 : ¬ x = 0 → Go p l e R s m args below meth c Ph n0 h k n q Ls st) : Go p l e R s m args below meth c Ph n0 h k n pc Ls (.int x :: st) :=
  g_if C d ho hq' hq (fun hh => K1 (by simpa [ifCond.holds, Int32.not_lt, Int32.not_le] using hh)) (fun hh => K2 (by simpa [ifCond.holds, Int32.not_lt, Int32.not_le] using hh))
theorem g_icmp_eq (C : Cx p s m meth c Z own nm code ml ret) {x y : Int32} {o : Int} {q' : Nat} (d : decode code pc = .ok (.if_icmp .eq o, 3)) (ho : 0 ≤ (pc : Int) + o) (hq' : ((pc : Int) + o).toNat = q') (hq : pc + 3 = q)
    (K1 : x = y → Go p l e R s m args below meth c Ph n0 h k n q' Ls st) (K2 : ¬ x = y → Go p l e R s m args below meth c Ph n0 h k n q Ls st) : Go p l e R s m args below meth c Ph n0 h k n pc Ls (.int y :: .int x :: st) :=
  g_icmp C d ho hq' hq (fun hh => K1 (by simpa [if_icmp.holds, Int32.not_lt, Int32.not_le] using hh)) (fun hh => K2 (by simpa [if_icmp.holds, Int32.not_lt, Int32.not_le] using hh))
theorem g_if_ne (C : Cx p s m meth c Z own nm code ml ret) {x : Int32} {o : Int} {q' : Nat} (d : decode code pc = .ok (.ifCond .ne o, 3)) (ho : 0 ≤ (pc : Int) + o) (hq' : ((pc : Int) + o).toNat = q') (hq : pc + 3 = q)
    (K1 : ¬ x = 0 → Go p l e R s m args below meth c Ph n0 h k n q' Ls st) (K2 : x = 0 → Go p l e R s m args below meth c Ph n0 h k n q Ls st) : Go p l e R s m args below meth c Ph n0 h k n pc Ls (.int x :: st) :=
  g_if C d ho hq' hq (fun hh => K1 (by simpa [ifCond.holds, Int32.not_lt, Int32.not_le] using hh)) (fun hh => K2 (by simpa [ifCond.holds, Int32.not_lt, Int32.not_le] using hh))
theorem g_icmp_ne (C : Cx p s m meth c Z own nm code ml ret) {x y : Int32} {o : Int} {q' : Nat} (d : decode code pc = .ok (.if_icmp .ne o, 3)) (ho : 0 ≤ (pc : Int) + o) (hq' : ((pc : Int) + o).toNat = q') (hq : pc + 3 = q)
    (K1 : ¬ x = y → Go p l e R s m args below meth c Ph n0 h k n q' Ls st) (K2 : x = y → Go p l e R s m args below meth c Ph n0 h k n q Ls st) : Go p l e R s m args below meth c Ph n0 h k n pc Ls (.int y :: .int x :: st) :=
  g_icmp C d ho hq' hq (fun hh => K1 (by simpa [if_icmp.holds, Int32.not_lt, Int32.not_le] using hh)) (fun hh => K2 (by simpa [if_icmp.holds, Int32.not_lt, Int32.not_le] using hh))
theorem g_if_lt (C : Cx p s m meth c Z own nm code ml ret) {x : Int32} {o : Int} {q' : Nat} (d : decode code pc = .ok (.ifCond .lt o, 3)) (ho : 0 ≤ (pc : Int) + o) (hq' : ((pc : Int) + o).toNat = q') (hq : pc + 3 = q)
    (K1 : x < 0 → Go p l e R s m args below meth c Ph n0 h k n q' Ls st) (K2 : ¬ x < 0 → Go p l e R s m args below meth c Ph n0 h k n q Ls st) : Go p l e R s m args below meth c Ph n0 h k n pc Ls (.int x :: st) :=
  g_if C d ho hq' hq (fun hh => K1 (by simpa [ifCond.holds, Int32.not_lt, Int32.not_le] using hh)) (fun hh => K2 (by simpa [ifCond.holds, Int32.not_lt, Int32.not_le] using hh))
theorem g_icmp_lt (C : Cx p s m meth c Z own nm code ml ret) {x y : Int32} {o : Int} {q' : Nat} (d : decode code pc = .ok (.if_icmp .lt o, 3)) (ho : 0 ≤ (pc : Int) + o) (hq' : ((pc : Int) + o).toNat = q') (hq : pc + 3 = q)
    (K1 : x < y → Go p l e R s m args below meth c Ph n0 h k n q' Ls st) (K2 : ¬ x < y → Go p l e R s m args below meth c Ph n0 h k n q Ls st) : Go p l e R s m args below meth c Ph n0 h k n pc Ls (.int y :: .int x :: st) :=
  g_icmp C d ho hq' hq (fun hh => K1 (by simpa [if_icmp.holds, Int32.not_lt, Int32.not_le] using hh)) (fun hh => K2 (by simpa [if_icmp.holds, Int32.not_lt, Int32.not_le] using hh))
theorem g_if_ge (C : Cx p s m meth c Z own nm code ml ret) {x : Int32} {o : Int} {q' : Nat} (d : decode code pc = .ok (.ifCond .ge o, 3)) (ho : 0 ≤ (pc : Int) + o) (hq' : ((pc : Int) + o).toNat = q') (hq : pc + 3 = q)
    (K1 : ¬ x < 0 → Go p l e R s m args below meth c Ph n0 h k n q' Ls st) (K2 : x < 0 → Go p l e R s m args below meth c Ph n0 h k n q Ls st) : Go p l e R s m args below meth c Ph n0 h k n pc Ls (.int x :: st) :=
  g_if C d ho hq' hq (fun hh => K1 (by simpa [ifCond.holds, Int32.not_lt, Int32.not_le] using hh)) (fun hh => K2 (by simpa [ifCond.holds, Int32.not_lt, Int32.not_le] using hh))
theorem g_icmp_ge (C : Cx p s m meth c Z own nm code ml ret) {x y : Int32} {o : Int} {q' : Nat} (d : decode code pc = .ok (.if_icmp .ge o, 3)) (ho : 0 ≤ (pc : Int) + o) (hq' : ((pc : Int) + o).toNat = q') (hq : pc + 3 = q)
    (K1 : ¬ x < y → Go p l e R s m args below meth c Ph n0 h k n q' Ls st) (K2 : x < y → Go p l e R s m args below meth c Ph n0 h k n q Ls st) : Go p l e R s m args below meth c Ph n0 h k n pc Ls (.int y :: .int x :: st) :=
  g_icmp C d ho hq' hq (fun hh => K1 (by simpa [if_icmp.holds, Int32.not_lt, Int32.not_le] using hh)) (fun hh => K2 (by simpa [if_icmp.holds, Int32.not_lt, Int32.not_le] using hh))
theorem g_if_gt (C : Cx p s m meth c Z own nm code ml ret) {x : Int32} {o : Int} {q' : Nat} (d : decode code pc = .ok (.ifCond .gt o, 3)) (ho : 0 ≤ (pc : Int) + o) (hq' : ((pc : Int) + o).toNat = q') (hq : pc + 3 = q)
    (K1 : 0 < x → Go p l e R s m args below meth c Ph n0 h k n q' Ls st) (K2 : ¬ 0 < x → Go p l e R s m args below meth c Ph n0 h k n q Ls st) : Go p l e R s m args below meth c Ph n0 h k n pc Ls (.int x :: st) :=
  g_if C d ho hq' hq (fun hh => K1 (by simpa [ifCond.holds, Int32.not_lt, Int32.not_le] using hh)) (fun hh => K2 (by simpa [ifCond.holds, Int32.not_lt, Int32.not_le] using hh))
theorem g_icmp_gt (C : Cx p s m meth c Z own nm code ml ret) {x y : Int32} {o : Int} {q' : Nat} (d : decode code pc = .ok (.if_icmp .gt o, 3)) (ho : 0 ≤ (pc : Int) + o) (hq' : ((pc : Int) + o).toNat = q') (hq : pc + 3 = q)
    (K1 : y < x → Go p l e R s m args below meth c Ph n0 h k n q' Ls st) (K2 : ¬ y < x → Go p l e R s m args below meth c Ph n0 h k n q Ls st) : Go p l e R s m args below meth c Ph n0 h k n pc Ls (.int y :: .int x :: st) :=
  g_icmp C d ho hq' hq (fun hh => K1 (by simpa [if_icmp.holds, Int32.not_lt, Int32.not_le] using hh)) (fun hh => K2 (by simpa [if_icmp.holds, Int32.not_lt, Int32.not_le] using hh))
theorem g_if_le (C : Cx p s m meth c Z own nm code ml ret) {x : Int32} {o : Int} {q' : Nat} (d : decode code pc = .ok (.ifCond .le o, 3)) (ho : 0 ≤ (pc : Int) + o) (hq' : ((pc : Int) + o).toNat = q') (hq : pc + 3 = q)
    (K1 : ¬ 0 < x → Go p l e R s m args below meth c Ph n0 h k n q' Ls st) (K2 : 0 < x → Go p l e R s m args below meth c Ph n0 h k n q Ls st) : Go p l e R s m args below meth c Ph n0 h k n pc Ls (.int x :: st) :=
  g_if C d ho hq' hq (fun hh => K1 (by simpa [ifCond.holds, Int32.not_lt, Int32.not_le] using hh)) (fun hh => K2 (by simpa [ifCond.holds, Int32.not_lt, Int32.not_le] using hh))
theorem g_icmp_le (C : Cx p s m meth c Z own nm code ml ret) {x y : Int32} {o : Int} {q' : Nat} (d : decode code pc = .ok (.if_icmp .le o, 3)) (ho : 0 ≤ (pc : Int) + o) (hq' : ((pc : Int) + o).toNat = q') (hq : pc + 3 = q)
    (K1 : ¬ y < x → Go p l e R s m args below meth c Ph n0 h k n q' Ls st) (K2 : y < x → Go p l e R s m args below meth c Ph n0 h k n q Ls st) : Go p l e R s m args below meth c Ph n0 h k n pc Ls (.int y :: .int x :: st) :=
  g_icmp C d ho hq' hq (fun hh => K1 (by simpa [if_icmp.holds, Int32.not_lt, Int32.not_le] using hh)) (fun hh => K2 (by simpa [if_icmp.holds, Int32.not_lt, Int32.not_le] using hh))
theorem g_ifnullY (C : Cx p s m meth c Z own nm code ml ret) {a : Addr} {o : Int} (d : decode code pc = .ok (.ifnull o, 3)) (ho : 0 ≤ (pc : Int) + o) (hq : ((pc : Int) + o).toNat = q) (K : Go p l e R s m args below meth c Ph n0 h k n q Ls st) : Go p l e R s m args below meth c Ph n0 h k n pc Ls (.null :: st) :=
  Go.pl (fun T t A S => XS.ifnullYes A C.1 rfl rfl (hb C.2.1 d) rfl ho hq S) K
theorem g_ifnullN (C : Cx p s m meth c Z own nm code ml ret) {a : Addr} {o : Int} (d : decode code pc = .ok (.ifnull o, 3)) (hq : pc + 3 = q) (K : Go p l e R s m args below meth c Ph n0 h k n q Ls st) : Go p l e R s m args below meth c Ph n0 h k n pc Ls (.ref a :: st) :=
  Go.pl (fun T t A S => XS.ifnullNo A C.1 rfl (hb C.2.1 d) rfl (by subst hq; exact S)) K
theorem g_ifnonnullY (C : Cx p s m meth c Z own nm code ml ret) {a : Addr} {o : Int} (d : decode code pc = .ok (.ifnonnull o, 3)) (ho : 0 ≤ (pc : Int) + o) (hq : ((pc : Int) + o).toNat = q) (K : Go p l e R s m args below meth c Ph n0 h k n q Ls st) : Go p l e R s m args below meth c Ph n0 h k n pc Ls (.ref a :: st) :=
  Go.pl (fun T t A S => XT.ifnonnullYes A C.1 rfl rfl (hb C.2.1 d) rfl ho hq S) K
theorem g_ifnonnullN (C : Cx p s m meth c Z own nm code ml ret) {a : Addr} {o : Int} (d : decode code pc = .ok (.ifnonnull o, 3)) (hq : pc + 3 = q) (K : Go p l e R s m args below meth c Ph n0 h k n q Ls st) : Go p l e R s m args below meth c Ph n0 h k n pc Ls (.null :: st) :=
  Go.pl (fun T t A S => XT.ifnonnullNo A C.1 rfl (hb C.2.1 d) rfl (by subst hq; exact S)) K
theorem g_acmp_eq (C : Cx p s m meth c Z own nm code ml ret) {x y : Value} {o : Int} {q' : Nat} (d : decode code pc = .ok (.if_acmp .eq o, 3)) (hx' : x.isRef = true) (hy' : y.isRef = true) (ho : 0 ≤ (pc : Int) + o) (hq' : ((pc : Int) + o).toNat = q') (hq : pc + 3 = q)
    (K1 : x = y → Go p l e R s m args below meth c Ph n0 h k n q' Ls st) (K2 : ¬ x = y → Go p l e R s m args below meth c Ph n0 h k n q Ls st) : Go p l e R s m args below meth c Ph n0 h k n pc Ls (y :: x :: st) := by
  by_cases hh : x = y
  · exact Go.pl (fun T t A S => XT.acmpYes A C.1 rfl rfl (hb C.2.1 d) rfl hx' hy' (by simpa [XT.acmp] using hh) ho hq' S) (K1 hh)
  · exact Go.pl (fun T t A S => XT.acmpNo A C.1 rfl (hb C.2.1 d) rfl hx' hy' (by simpa [XT.acmp] using hh) (by subst hq; exact S)) (K2 (by simpa using hh))
theorem g_acmp_ne (C : Cx p s m meth c Z own nm code ml ret) {x y : Value} {o : Int} {q' : Nat} (d : decode code pc = .ok (.if_acmp .ne o, 3)) (hx' : x.isRef = true) (hy' : y.isRef = true) (ho : 0 ≤ (pc : Int) + o) (hq' : ((pc : Int) + o).toNat = q') (hq : pc + 3 = q)
    (K1 : ¬ x = y → Go p l e R s m args below meth c Ph n0 h k n q' Ls st) (K2 : x = y → Go p l e R s m args below meth c Ph n0 h k n q Ls st) : Go p l e R s m args below meth c Ph n0 h k n pc Ls (y :: x :: st) := by
  by_cases hh : ¬ x = y
  · exact Go.pl (fun T t A S => XT.acmpYes A C.1 rfl rfl (hb C.2.1 d) rfl hx' hy' (by simpa [XT.acmp] using hh) ho hq' S) (K1 hh)
  · exact Go.pl (fun T t A S => XT.acmpNo A C.1 rfl (hb C.2.1 d) rfl hx' hy' (by simpa [XT.acmp] using hh) (by subst hq; exact S)) (K2 (by simpa using hh))
theorem g_getf (C : Cx p s m meth c Z own nm code ml ret) {R0 O f d' host : String} {index : Nat} {a : Addr} {v : Value} (d : decode code pc = .ok (.getfield index, 3)) (w : (Cond.fieldLink own index R0 f d').before a0 Z = true ∨ (Cond.fieldLinkNest own index R0 f d' host).before a0 Z = true) (via : Via Z R0 O f d') (F : Fld Z h a O f d' v) (hq : pc + 3 = q)
    (K : Go p l e R s m args below meth c Ph n0 h k n q Ls (v :: st)) : Go p l e R s m args below meth c Ph n0 h k n pc Ls (.ref a :: st) := fun T locs X N eT => by
  obtain ⟨T', X', e', stp⟩ := getF X C.1 C.2.2.2.2.1 C.2.2.2.1 w via eT F (g := mkF m pc Ls (.ref a :: st)) rfl rfl (hb C.2.1 d)
  obtain ⟨s₂, v, S, r⟩ := K T' locs X' N e'
  exact ⟨s₂, v, stp _ (by subst hq; exact S), r⟩
theorem g_gets (C : Cx p s m meth c Z own nm code ml ret) {R0 O f d' host : String} {index : Nat} {v : Value} (d : decode code pc = .ok (.getstatic index, 3)) (w : (Cond.fieldLink own index R0 f d').before a0 Z = true ∨ (Cond.fieldLinkNest own index R0 f d' host).before a0 Z = true) (via : Via Z R0 O f d') (F : Sta Z h O f d' v) (hq : pc + 3 = q)
    (K : Go p l e R s m args below meth c Ph n0 h k n q Ls (v :: st)) : Go p l e R s m args below meth c Ph n0 h k n pc Ls st := fun T locs X N eT => by
  obtain ⟨T', X', e', stp⟩ := getS2 X C.1 C.2.2.2.2.1 C.2.2.2.1 w via eT F (g := mkF m pc Ls st) rfl (hb C.2.1 d)
  obtain ⟨s₂, v, S, r⟩ := K T' locs X' N e'
  exact ⟨s₂, v, stp _ (by subst hq; exact S), r⟩
theorem g_putf (C : Cx p s m meth c Z own nm code ml ret) {R0 O f d' host Cl : String} {index kk : Nat} {a : Addr} {v old : Value} {ty : FieldType} (d : decode code pc = .ok (.putfield index, 3)) (w : (Cond.fieldLink own index R0 f d').before a0 Z = true ∨ (Cond.fieldLinkNest own index R0 f d' host).before a0 Z = true) (via : Via Z R0 O f d') (F : Fld Z h a O f d' old) (E : Exa Z h a Cl)
    (L : (Cond.lays Cl O f d').before a0 Z = true ∨ ((Cond.laysFinal Cl O f d').before a0 Z = true ∧ own = O ∧ nm = "<init>")) (wi : (Cond.instantiable Cl kk).before a0 Z = true) (hty : parseFieldDescriptor d' = some ty) (hn : narrow ty v = v) (hf : fits ty v = true) (ha : n0 ≤ a) (hq : pc + 3 = q)
    (K : ∀ h', Wr h h' a (Jvm.RoadKit.slotOf Z O f d') v → Go p l e R s m args below meth c Ph n0 h' k n q Ls st) : Go p l e R s m args below meth c Ph n0 h k n pc Ls (v :: .ref a :: st) := fun T locs X N eT => by
  obtain ⟨T', h', X', e', W, stp⟩ := putF X C.1 C.2.2.2.2.1 C.2.2.2.1 w via eT F E (L.imp id fun q => ⟨q.1, q.2.1, C.2.2.2.2.2.1.trans q.2.2⟩) wi hty hn hf (g := mkF m pc Ls (v :: .ref a :: st)) rfl rfl (hb C.2.1 d)
  obtain ⟨s₂, v, S, r⟩ := K h' W T' _ X' (Fr.snoc X' N ha) e'
  exact ⟨s₂, v, stp _ (by subst hq; exact S), r⟩
theorem g_new (C : Cx p s m meth c Z own nm code ml ret) {Cl : String} {index nn : Nat} (d : decode code pc = .ok (.new index, 3)) (w : (Cond.classLink own index Cl).before a0 Z = true) (wi : (Cond.instantiable Cl nn).before a0 Z = true) (wz : (Cond.initialized Cl).before a0 Z = true) (hc : k + 1 ≤ R.cells) (hl : n + nn ≤ R.slots) (hq : pc + 3 = q)
    (K : ∀ (a : Addr) (h' : Heap), a = h.size → Ext h h' → Exa Z h' a Cl → (∀ {O f d' : String} {ty : FieldType}, Laid Z a0 Cl O f d' → parseFieldDescriptor d' = some ty → Fld Z h' a O f d' (defaultValue ty)) → Go p l e R s m args below meth c Ph n0 h' (k + 1) (n + nn) q Ls (.ref a :: st)) : Go p l e R s m args below meth c Ph n0 h k n pc Ls st := fun T locs X N eT => by
  obtain ⟨T', h', X', e', E, A, D, -, stp⟩ := newO X C.1 C.2.2.2.2.1 C.2.2.2.1 w wi wz eT (g := mkF m pc Ls st) rfl (hb C.2.1 d) hc hl
  obtain ⟨s₂, v, S, r⟩ := K _ h' rfl E A D T' locs X' N e'
  exact ⟨s₂, v, stp _ (by subst hq; exact S), r⟩
theorem g_newarray (C : Cx p s m meth c Z own nm code ml ret) {aty : ArrayType} {N' : Int32} {cap : Nat} (d : decode code pc = .ok (.newarray aty, 2)) (w : (Cond.arrayClass (newarray.typeOf aty)).before a0 Z = true) (hn : ¬ N' < 0) (hcap : N'.toNatClampNeg ≤ cap) (hbg : cap * 8 ≤ 536870912) (hc : k + 1 ≤ R.cells) (hl : n + cap ≤ R.slots) (hq : pc + 2 = q)
    (K : ∀ (a : Addr) (h' : Heap) (cA : ClassId), a = h.size → Ext h h' → Arr Z h' a (newA cA (newarray.typeOf aty) N') (newarray.typeOf aty) → Go p l e R s m args below meth c Ph n0 h' (k + 1) (n + cap) q Ls (.ref a :: st)) : Go p l e R s m args below meth c Ph n0 h k n pc Ls (.int N' :: st) := fun T locs X N eT => by
  obtain ⟨T', h', cA, X', e', E, A, stp⟩ := newP X C.1 C.2.2.2.2.1 w eT (g := mkF m pc Ls (.int N' :: st)) rfl (hb C.2.1 d) rfl hn hcap hbg hc hl
  obtain ⟨s₂, v, S, r⟩ := K _ h' cA rfl E A T' locs X' N e'
  exact ⟨s₂, v, stp _ (by subst hq; exact S), r⟩
theorem g_anewarray (C : Cx p s m meth c Z own nm code ml ret) {Cl : String} {index : Nat} {N' : Int32} {cap : Nat} (d : decode code pc = .ok (.anewarray index, 3)) (w1 : (Cond.classLink own index Cl).before a0 Z = true) (w2 : (Cond.arrayOver (.object Cl)).before a0 Z = true) (hn : ¬ N' < 0) (hcap : N'.toNatClampNeg ≤ cap) (hbg : cap * 8 ≤ 536870912) (hc : k + 1 ≤ R.cells) (hl : n + cap ≤ R.slots) (hq : pc + 3 = q)
    (K : ∀ (a : Addr) (h' : Heap) (cA : ClassId), a = h.size → Ext h h' → Arr Z h' a (newA cA (.object Cl) N') (.object Cl) → Ovr Z cA Cl → Go p l e R s m args below meth c Ph n0 h' (k + 1) (n + cap) q Ls (.ref a :: st)) : Go p l e R s m args below meth c Ph n0 h k n pc Ls (.int N' :: st) := fun T locs X N eT => by
  obtain ⟨T', h', cA, X', e', E, A, O, stp⟩ := newR X C.1 C.2.2.2.2.1 C.2.2.2.1 w1 w2 eT (g := mkF m pc Ls (.int N' :: st)) rfl (hb C.2.1 d) rfl hn hcap hbg hc hl
  obtain ⟨s₂, v, S, r⟩ := K _ h' cA rfl E A O T' locs X' N e'
  exact ⟨s₂, v, stp _ (by subst hq; exact S), r⟩
theorem g_initO (C : Cx p s m meth c Z own nm code ml ret) {idx : Nat} {a : Addr} {W : Nat} (d : decode code pc = .ok (.invokespecial idx, 3)) (w1 : (Cond.methodLink own idx Lib.objectInit).before a0 Z = true) (w2 : (Cond.instanceMethod Lib.objectInit).before a0 Z = true) (w3 : (Cond.code Lib.objectInit ⟨#[0xb1]⟩ 1 none).before a0 Z = true)
    (hsz : Ls.size = ml) (hf : 1 ≤ R.frames) (hW : (st.map fun v => v.category).sum = W) (hl : W + 12 ≤ R.locals) (hq : pc + 3 = q) (K : Go p l e R s m args below meth c Ph n0 h k n q Ls st) : Go p l e R s m args below meth c Ph n0 h k n pc Ls (.ref a :: st) := fun T locs X N eT => by
  obtain ⟨T', X', e', stp⟩ := initO X C.1 C.2.2.2.2.1 C.2.2.2.1 w1 w2 w3 eT (g := mkF m pc Ls (.ref a :: st)) rfl (hsz.trans C.2.2.1.symm) rfl (hb C.2.1 d) hf (W := W) (by show 2 * 0 + _ ≤ _; rw [hW]; omega) hl
  obtain ⟨s₂, v, S, r⟩ := K T' locs X' N e'
  exact ⟨s₂, v, stp _ (by subst hq; exact S), r⟩
theorem g_castY (C : Cx p s m meth c Z own nm code ml ret) {K' : String} {index : Nat} {a : Addr} (d : decode code pc = .ok (.checkcast index, 3)) (w : (Cond.classLink own index K').before a0 Z = true) (F : Ins Z h a K' true) (hq : pc + 3 = q) (K : Go p l e R s m args below meth c Ph n0 h k n q Ls (.ref a :: st)) : Go p l e R s m args below meth c Ph n0 h k n pc Ls (.ref a :: st) := fun T locs X N eT => by
  obtain ⟨T', X', e', stp⟩ := castY X C.1 C.2.2.2.2.1 C.2.2.2.1 w eT F (g := mkF m pc Ls (.ref a :: st)) rfl rfl (hb C.2.1 d)
  obtain ⟨s₂, v, S, r⟩ := K T' locs X' N e'
  exact ⟨s₂, v, stp _ (by subst hq; exact S), r⟩
theorem g_instY (C : Cx p s m meth c Z own nm code ml ret) {K' : String} {index : Nat} {a : Addr} (d : decode code pc = .ok (.instanceof index, 3)) (w : (Cond.classLink own index K').before a0 Z = true) (F : Ins Z h a K' true) (hq : pc + 3 = q) (K : Go p l e R s m args below meth c Ph n0 h k n q Ls (.int 1 :: st)) : Go p l e R s m args below meth c Ph n0 h k n pc Ls (.ref a :: st) := fun T locs X N eT => by
  obtain ⟨T', X', e', stp⟩ := instY X C.1 C.2.2.2.2.1 C.2.2.2.1 w eT F (g := mkF m pc Ls (.ref a :: st)) rfl rfl (hb C.2.1 d)
  obtain ⟨s₂, v, S, r⟩ := K T' locs X' N e'
  exact ⟨s₂, v, stp _ (by subst hq; exact S), r⟩
theorem g_ldcInt (C : Cx p s m meth c Z own nm code ml ret) {index : Nat} {v : Int32} (d : decode code pc = .ok (.ldc index, 2)) (w : (Cond.constant own index v).before a0 Z = true) (hq : pc + 2 = q) (K : Go p l e R s m args below meth c Ph n0 h k n q Ls (.int v :: st)) : Go p l e R s m args below meth c Ph n0 h k n pc Ls st := fun T locs X N eT => by
  obtain ⟨s₂, v', S, r⟩ := K T locs X N eT
  exact ⟨s₂, v', X.ldcInt C.1 C.2.2.2.1 (mvT C.2.2.2.2.1 w) (g := mkF m pc Ls st) rfl (hb C.2.1 d) _ (by subst hq; exact S), r⟩
theorem g_ldc2Long (C : Cx p s m meth c Z own nm code ml ret) {index : Nat} {v : Int64} (d : decode code pc = .ok (.ldc2_w index, 3)) (w : (Cond.constantLong own index v).before a0 Z = true) (hq : pc + 3 = q) (K : Go p l e R s m args below meth c Ph n0 h k n q Ls (.long v :: st)) : Go p l e R s m args below meth c Ph n0 h k n pc Ls st := fun T locs X N eT => by
  obtain ⟨s₂, v', S, r⟩ := K T locs X N eT
  exact ⟨s₂, v', X.ldc2Long C.1 C.2.2.2.1 (mvT C.2.2.2.2.1 w) (g := mkF m pc Ls st) rfl (hb C.2.1 d) _ (by subst hq; exact S), r⟩
/-- an array of N places; place j holds f j -/
def Av (Z : State) (h : Heap) (a : Addr) (ty : FieldType) (N : Nat) (f : Nat → Value) : Prop := ∃ c : Cell, Arr Z h a c ty ∧ c.slots.size = N ∧ N < 2 ^ 31 ∧ ∀ j, j < N → c.slots[j]? = some (f j)
theorem Av.ext {h' : Heap} {a : Addr} {ty : FieldType} {N : Nat} {f : Nat → Value} (A : Av Z h a ty N f) (E : Ext h h') : Av Z h' a ty N f := by obtain ⟨c, A, r⟩ := A; exact ⟨c, A.ext E, r⟩
theorem Av.lt {a : Addr} {ty : FieldType} {N : Nat} {f : Nat → Value} (A : Av Z h a ty N f) : a < h.size := by obtain ⟨c, A, r⟩ := A; exact A.lt
theorem Av.other {h' : Heap} {a b : Addr} {ty : FieldType} {N sl : Nat} {v : Value} {f : Nat → Value} (A : Av Z h b ty N f) (W : Wr h h' a sl v) (ne : b ≠ a) : Av Z h' b ty N f := by obtain ⟨c, A, r⟩ := A; exact ⟨c, A.other W ne, r⟩
theorem Av.keep {h' : Heap} {a : Addr} {ty : FieldType} {N : Nat} {f : Nat → Value} {ws : List Addr} (A : Av Z h a ty N f) (K : Keep h h' ws) (ne : a ∉ ws) : Av Z h' a ty N f := by obtain ⟨c, A, r⟩ := A; exact ⟨c, ⟨K.2.1 a c A.1 ne, A.2⟩, r⟩
theorem Av.congr {a : Addr} {ty : FieldType} {N : Nat} {f g : Nat → Value} (A : Av Z h a ty N f) (hfg : ∀ j, j < N → f j = g j) : Av Z h a ty N g := by obtain ⟨c, A, r1, r2, r3⟩ := A; exact ⟨c, A, r1, r2, fun j hj => by rw [r3 j hj, hfg j hj]⟩
theorem Av.set {h' : Heap} {a : Addr} {ty : FieldType} {N i : Nat} {v : Value} {f : Nat → Value} (A : Av Z h a ty N f) (W : Wr h h' a i v) (hi : i < N) : Av Z h' a ty N (fun j => if j = i then v else f j) := by
  obtain ⟨c, A, r1, r2, r3⟩ := A
  refine ⟨c.setSlot i v, A.same W, by rw [sz_set]; exact r1, r2, fun j hj => ?_⟩
  by_cases e : j = i
  · subst e; simp [Cell.setSlot, r1, hi]
  · show (c.setSlot i v).slots[j]? = some (if j = i then v else f j)
    rw [if_neg e, ← r3 j hj]; simp [Cell.setSlot, Array.getElem?_setIfInBounds_ne (Ne.symm e)]
theorem Av.new {a : Addr} {ty : FieldType} {cA : ClassId} {N' : Int32} (A : Arr Z h a (newA cA ty N') ty) (hn : ¬ N' < 0) : Av Z h a ty N'.toNatClampNeg (fun _ => defaultValue ty) :=
  ⟨_, A, sz_new _ _ _, (back32 hn).2, fun j hj => by simp [newA, hj]⟩
theorem Av.ne_exa {a b : Addr} {ty : FieldType} {N kk : Nat} {f : Nat → Value} {Cl : String} (A : Av Z h a ty N f) (E : Exa Z h b Cl) (wi : (Cond.instantiable Cl kk).before a0 Z = true) : a ≠ b := by obtain ⟨c, A, r⟩ := A; exact Ne.symm (ne_arr E wi A)
theorem i32_idx {i N : Nat} (hi : i < N) (hN : N < 2 ^ 31) {c : Cell} (hc : c.slots.size = N) : (¬ (Int32.ofNat i < 0 ∨ c.slots.size ≤ (Int32.ofNat i).toNatClampNeg)) ∧ (Int32.ofNat i).toNatClampNeg = i := by
  have e : (Int32.ofNat i).toNatClampNeg = i := Int32.toNatClampNeg_ofNat_of_lt (by omega)
  refine ⟨?_, e⟩
  rw [e, hc]
  rintro (q | q)
  · have := Int32.lt_iff_toInt_lt.mp q
    rw [Int32.toInt_ofNat_of_lt (by omega)] at this
    simp at this
    omega
  · omega
theorem g_iaload (C : Cx p s m meth c Z own nm code ml ret) {a : Addr} {N i : Nat} {f : Nat → Value} {j : Int32} {v : Value} (d : decode code pc = .ok (.iaload, 1)) (A : Av Z h a .int N f) (hi : i < N) (hj : j = Int32.ofNat i) (hv : f i = v) (hq : pc + 1 = q) (K : Go p l e R s m args below meth c Ph n0 h k n q Ls (v :: st)) : Go p l e R s m args below meth c Ph n0 h k n pc Ls (.int j :: .ref a :: st) := fun T locs X N' eT => by
  obtain ⟨c', A, r1, r2, r3⟩ := A
  obtain ⟨g1, g2⟩ := i32_idx hi r2 r1
  obtain ⟨s₂, v', S, r⟩ := K T locs X N' eT
  subst hj hv
  exact ⟨s₂, v', X.iaload C.1 (by rw [eT]; exact A.1) (State.isArrayOf_alike C.2.2.2.2.1.alike A.2.1) A.2.2 g1 (by rw [g2]; exact r3 i hi) (g := mkF m pc Ls _) rfl rfl (hb C.2.1 d) _ (by subst hq; exact S), r⟩
theorem g_laload (C : Cx p s m meth c Z own nm code ml ret) {a : Addr} {N i : Nat} {f : Nat → Value} {j : Int32} {v : Value} (d : decode code pc = .ok (.laload, 1)) (A : Av Z h a .long N f) (hi : i < N) (hj : j = Int32.ofNat i) (hv : f i = v) (hq : pc + 1 = q) (K : Go p l e R s m args below meth c Ph n0 h k n q Ls (v :: st)) : Go p l e R s m args below meth c Ph n0 h k n pc Ls (.int j :: .ref a :: st) := fun T locs X N' eT => by
  obtain ⟨c', A, r1, r2, r3⟩ := A
  obtain ⟨g1, g2⟩ := i32_idx hi r2 r1
  obtain ⟨s₂, v', S, r⟩ := K T locs X N' eT
  subst hj hv
  exact ⟨s₂, v', X.laload C.1 (by rw [eT]; exact A.1) (State.isArrayOf_alike C.2.2.2.2.1.alike A.2.1) A.2.2 g1 (by rw [g2]; exact r3 i hi) (g := mkF m pc Ls _) rfl rfl (hb C.2.1 d) _ (by subst hq; exact S), r⟩
theorem g_caload (C : Cx p s m meth c Z own nm code ml ret) {a : Addr} {N i : Nat} {f : Nat → Value} {j : Int32} {v : Value} (d : decode code pc = .ok (.caload, 1)) (A : Av Z h a .char N f) (hi : i < N) (hj : j = Int32.ofNat i) (hv : f i = v) (hq : pc + 1 = q) (K : Go p l e R s m args below meth c Ph n0 h k n q Ls (v :: st)) : Go p l e R s m args below meth c Ph n0 h k n pc Ls (.int j :: .ref a :: st) := fun T locs X N' eT => by
  obtain ⟨c', A, r1, r2, r3⟩ := A
  obtain ⟨g1, g2⟩ := i32_idx hi r2 r1
  obtain ⟨s₂, v', S, r⟩ := K T locs X N' eT
  subst hj hv
  exact ⟨s₂, v', X.caload C.1 (by rw [eT]; exact A.1) (State.isArrayOf_alike C.2.2.2.2.1.alike A.2.1) A.2.2 g1 (by rw [g2]; exact r3 i hi) (g := mkF m pc Ls _) rfl rfl (hb C.2.1 d) _ (by subst hq; exact S), r⟩
theorem g_baload (C : Cx p s m meth c Z own nm code ml ret) {a : Addr} {N i : Nat} {f : Nat → Value} {j : Int32} {v : Value} (d : decode code pc = .ok (.baload, 1)) (A : Av Z h a .byte N f) (hi : i < N) (hj : j = Int32.ofNat i) (hv : f i = v) (hq : pc + 1 = q) (K : Go p l e R s m args below meth c Ph n0 h k n q Ls (v :: st)) : Go p l e R s m args below meth c Ph n0 h k n pc Ls (.int j :: .ref a :: st) := fun T locs X N' eT => by
  obtain ⟨c', A, r1, r2, r3⟩ := A
  obtain ⟨g1, g2⟩ := i32_idx hi r2 r1
  obtain ⟨s₂, v', S, r⟩ := K T locs X N' eT
  subst hj hv
  exact ⟨s₂, v', X.baloadBytes C.1 (by rw [eT]; exact A.1) (State.isArrayOf_alike C.2.2.2.2.1.alike A.2.1) A.2.2 g1 (by rw [g2]; exact r3 i hi) (g := mkF m pc Ls _) rfl rfl (hb C.2.1 d) _ (by subst hq; exact S), r⟩
theorem g_aaload (C : Cx p s m meth c Z own nm code ml ret) {a : Addr} {N i : Nat} {f : Nat → Value} {j : Int32} {v : Value} {ty : FieldType} (d : decode code pc = .ok (.aaload, 1)) (A : Av Z h a ty N f) (hty : ty.isReference = true) (hi : i < N) (hj : j = Int32.ofNat i) (hv : f i = v) (hq : pc + 1 = q) (K : Go p l e R s m args below meth c Ph n0 h k n q Ls (v :: st)) : Go p l e R s m args below meth c Ph n0 h k n pc Ls (.int j :: .ref a :: st) := fun T locs X N' eT => by
  obtain ⟨c', A, r1, r2, r3⟩ := A
  obtain ⟨g1, g2⟩ := i32_idx hi r2 r1
  obtain ⟨s₂, v', S, r⟩ := K T locs X N' eT
  subst hj hv
  exact ⟨s₂, v', X.aaload C.1 (by rw [eT]; exact A.1) (State.isArrayOf_alike C.2.2.2.2.1.alike A.2.1) hty A.2.2 g1 (by rw [g2]; exact r3 i hi) (g := mkF m pc Ls _) rfl rfl (hb C.2.1 d) _ (by subst hq; exact S), r⟩
theorem g_alen (C : Cx p s m meth c Z own nm code ml ret) {a : Addr} {N : Nat} {f : Nat → Value} {ty : FieldType} {z : Int32} (d : decode code pc = .ok (.arraylength, 1)) (A : Av Z h a ty N f) (hz : Int32.ofNat N = z) (hq : pc + 1 = q) (K : Go p l e R s m args below meth c Ph n0 h k n q Ls (.int z :: st)) : Go p l e R s m args below meth c Ph n0 h k n pc Ls (.ref a :: st) := fun T locs X N' eT => by
  obtain ⟨c', A, r1, r2, r3⟩ := A
  obtain ⟨s₂, v', S, r⟩ := K T locs X N' eT
  refine ⟨s₂, v', X.arraylength C.1 (by rw [eT]; exact A.1) (State.isArrayOf_alike C.2.2.2.2.1.alike A.2.1) (g := mkF m pc Ls _) rfl rfl (hb C.2.1 d) _ ?_, r⟩
  subst hq hz
  rw [r1]
  exact S
theorem g_iastore (C : Cx p s m meth c Z own nm code ml ret) {a : Addr} {N i : Nat} {f : Nat → Value} {j : Int32} {x : Int32} (d : decode code pc = .ok (.iastore, 1)) (A : Av Z h a .int N f) (hi : i < N) (hj : j = Int32.ofNat i) (ha : n0 ≤ a) (hq : pc + 1 = q)
    (K : ∀ h', Wr h h' a i (.int x) → Av Z h' a .int N (fun j => if j = i then (.int x) else f j) → Go p l e R s m args below meth c Ph n0 h' k n q Ls st) : Go p l e R s m args below meth c Ph n0 h k n pc Ls (.int x :: .int j :: .ref a :: st) := fun T locs X N' eT => by
  have A' := A
  obtain ⟨c', A, r1, r2, r3⟩ := A
  obtain ⟨g1, g2⟩ := i32_idx hi r2 r1
  subst hj
  obtain ⟨T', h', X', e', W, stp⟩ := stI X C.1 C.2.2.2.2.1 eT A g1 (g := mkF m pc Ls (.int x :: .int (Int32.ofNat i) :: .ref a :: st)) rfl rfl (hb C.2.1 d)
  have N2 := Fr.snoc X' N' ha
  rw [g2] at W
  obtain ⟨s₂, v, S, r⟩ := K h' W (A'.set W hi) T' _ X' N2 e'
  exact ⟨s₂, v, stp _ (by subst hq; exact S), r⟩
theorem g_lastore (C : Cx p s m meth c Z own nm code ml ret) {a : Addr} {N i : Nat} {f : Nat → Value} {j : Int32} {x : Int64} (d : decode code pc = .ok (.lastore, 1)) (A : Av Z h a .long N f) (hi : i < N) (hj : j = Int32.ofNat i) (ha : n0 ≤ a) (hq : pc + 1 = q)
    (K : ∀ h', Wr h h' a i (.long x) → Av Z h' a .long N (fun j => if j = i then (.long x) else f j) → Go p l e R s m args below meth c Ph n0 h' k n q Ls st) : Go p l e R s m args below meth c Ph n0 h k n pc Ls (.long x :: .int j :: .ref a :: st) := fun T locs X N' eT => by
  have A' := A
  obtain ⟨c', A, r1, r2, r3⟩ := A
  obtain ⟨g1, g2⟩ := i32_idx hi r2 r1
  subst hj
  obtain ⟨T', h', X', e', W, stp⟩ := stJ X C.1 C.2.2.2.2.1 eT A g1 (g := mkF m pc Ls (.long x :: .int (Int32.ofNat i) :: .ref a :: st)) rfl rfl (hb C.2.1 d)
  have N2 := Fr.snoc X' N' ha
  rw [g2] at W
  obtain ⟨s₂, v, S, r⟩ := K h' W (A'.set W hi) T' _ X' N2 e'
  exact ⟨s₂, v, stp _ (by subst hq; exact S), r⟩
theorem g_castore (C : Cx p s m meth c Z own nm code ml ret) {a : Addr} {N i : Nat} {f : Nat → Value} {j : Int32} {x : Int32} (d : decode code pc = .ok (.castore, 1)) (A : Av Z h a .char N f) (hi : i < N) (hj : j = Int32.ofNat i) (ha : n0 ≤ a) (hq : pc + 1 = q)
    (K : ∀ h', Wr h h' a i (.int (nar .char x)) → Av Z h' a .char N (fun j => if j = i then (.int (nar .char x)) else f j) → Go p l e R s m args below meth c Ph n0 h' k n q Ls st) : Go p l e R s m args below meth c Ph n0 h k n pc Ls (.int x :: .int j :: .ref a :: st) := fun T locs X N' eT => by
  have A' := A
  obtain ⟨c', A, r1, r2, r3⟩ := A
  obtain ⟨g1, g2⟩ := i32_idx hi r2 r1
  subst hj
  obtain ⟨T', h', X', e', W, stp⟩ := stC X C.1 C.2.2.2.2.1 eT A g1 (g := mkF m pc Ls (.int x :: .int (Int32.ofNat i) :: .ref a :: st)) rfl rfl (hb C.2.1 d)
  have N2 := Fr.snoc X' N' ha
  rw [g2] at W
  obtain ⟨s₂, v, S, r⟩ := K h' W (A'.set W hi) T' _ X' N2 e'
  exact ⟨s₂, v, stp _ (by subst hq; exact S), r⟩
theorem g_bastore (C : Cx p s m meth c Z own nm code ml ret) {a : Addr} {N i : Nat} {f : Nat → Value} {j : Int32} {x : Int32} (d : decode code pc = .ok (.bastore, 1)) (A : Av Z h a .byte N f) (hi : i < N) (hj : j = Int32.ofNat i) (ha : n0 ≤ a) (hq : pc + 1 = q)
    (K : ∀ h', Wr h h' a i (.int (nar .byte x)) → Av Z h' a .byte N (fun j => if j = i then (.int (nar .byte x)) else f j) → Go p l e R s m args below meth c Ph n0 h' k n q Ls st) : Go p l e R s m args below meth c Ph n0 h k n pc Ls (.int x :: .int j :: .ref a :: st) := fun T locs X N' eT => by
  have A' := A
  obtain ⟨c', A, r1, r2, r3⟩ := A
  obtain ⟨g1, g2⟩ := i32_idx hi r2 r1
  subst hj
  obtain ⟨T', h', X', e', W, stp⟩ := stB X C.1 C.2.2.2.2.1 eT A g1 (g := mkF m pc Ls (.int x :: .int (Int32.ofNat i) :: .ref a :: st)) rfl rfl (hb C.2.1 d)
  have N2 := Fr.snoc X' N' ha
  rw [g2] at W
  obtain ⟨s₂, v, S, r⟩ := K h' W (A'.set W hi) T' _ X' N2 e'
  exact ⟨s₂, v, stp _ (by subst hq; exact S), r⟩
theorem g_aastore (C : Cx p s m meth c Z own nm code ml ret) {a : Addr} {N i : Nat} {f : Nat → Value} {j : Int32} {x : Value} {ty : FieldType} (d : decode code pc = .ok (.aastore, 1)) (A : Av Z h a ty N f) (hi : i < N) (hj : j = Int32.ofNat i) (hty : ty.isReference = true) (F : Sto Z h a x) (ha : n0 ≤ a) (hq : pc + 1 = q)
    (K : ∀ h', Wr h h' a i x → Av Z h' a ty N (fun j => if j = i then x else f j) → Go p l e R s m args below meth c Ph n0 h' k n q Ls st) : Go p l e R s m args below meth c Ph n0 h k n pc Ls (x :: .int j :: .ref a :: st) := fun T locs X N' eT => by
  have A' := A
  obtain ⟨c', A, r1, r2, r3⟩ := A
  obtain ⟨g1, g2⟩ := i32_idx hi r2 r1
  subst hj
  obtain ⟨T', h', X', e', W, stp⟩ := stR X C.1 C.2.2.2.2.1 eT A g1 hty F (g := mkF m pc Ls (x :: .int (Int32.ofNat i) :: .ref a :: st)) rfl rfl (hb C.2.1 d)
  have N2 := Fr.snoc X' N' ha
  rw [g2] at W
  obtain ⟨s₂, v, S, r⟩ := K h' W (A'.set W hi) T' _ X' N2 e'
  exact ⟨s₂, v, stp _ (by subst hq; exact S), r⟩
/-- a contract: with the arguments as', from the heap hs, the call returns v with Q v (the heap then); the written places lie at or above nf; rm: its room -/
def Ctr (l : Launch) (Z : State) (y : MethodName) (bytes : ByteArray) (maxL : Nat) (rt : Option FieldType) (rm : Room) (as' : Array Value) (hs : Heap) (nf : Nat) (Q : Option Value → Heap → Prop) : Prop :=
  MetFree l y (head1 [Cond.code y bytes maxL rt] rm) (fun a U => a = as' ∧ Z.Warmed39 U.vm ∧ U.heap = hs) (fun _ _ _ _ _ => True) (fun _ U o U' => ∃ v L, o = .returned v ∧ (Q v U'.heap ∧ Fr nf L) ∧ FrameEnd U o U' L rm.cells rm.slots)
/-- what a narrow walk must come to -/
def FinN (s : State) (below : List Frame) (rm : Room) (nf : Nat) (Q : Option Value → Heap → Prop) : State → Option Value → Prop :=
  fun s₂ v => s₂.status = .running ∧ Ended s₂ below (.returned v) ∧ ∃ L, (Q v s₂.heap ∧ Fr nf L) ∧ FrameEnd s (.returned v) s₂ L rm.cells rm.slots
theorem Ctr.of {l : Launch} {Z : State} {y : MethodName} {bytes : ByteArray} {maxL : Nat} {rt : Option FieldType} {rm : Room} {as' : Array Value} {hs : Heap} {nf : Nat} {Q : Option Value → Heap → Prop} {n1 : Nat} (Ls : Array Slot) (hp : plainFor y = true) (hE : ∀ m, entryFrame m as' maxL = mkF m 0 Ls [])
    (B : ∀ (p : Program) (e : Env) (s : State) (m : MethodId) (below : List Frame) (meth : Method) (c : Code), Cx p s m meth c Z y.cls y.name bytes maxL rt → Go p l e rm s m as' below meth c (FinN s below rm nf Q) n1 hs 0 0 0 Ls []) : Ctr l Z y bytes maxL rt rm as' hs nf Q := by
  refine MetFree.of_bodySF hp hisR ?_
  intro p e s m args below meth c s₁ Bd hml0 hP hK
  obtain ⟨rfl, hZ, hh⟩ := hP
  have X0 : Stand p l e rm s m _ below meth c s₁ [] 0 0 := Stand.of_body Bd
  have e0 : s₁.heap = hs := by rw [← hh, Bd.state]; rfl
  obtain ⟨s₂, v, S, r1, r2, L, r3, r4⟩ := B p e s m below meth c ⟨Bd.exec, Bd.bytes, hml0, findClass_of_methodNamed Bd.named, hZ, (name_of_methodNamed Bd.named Bd.method).1, Bd.returns, Bd.notSynchronized⟩ s₁ [] X0 (Fr.nil _) e0
  exact ⟨s₂, _, castTop (hE m) S, r1, r2, v, L, rfl, r3, r4⟩
theorem fin_of {T : State} {locs : List Loc} {rm : Room} {nf : Nat} {Q : Option Value → Heap → Prop} {v : Option Value} {st' : List Value} (C : Cx p s m meth c Z own nm code ml ret) (X : Stand p l e R s m args below meth c T locs k n) (N : Fr n0 locs) (eT : T.heap = h) (hv : ret = none → v = none) (hn : nf ≤ n0) (hk : k ≤ rm.cells) (hl : n ≤ rm.slots) (hQ : Q v h)
    (H : ∀ fs, (∀ (f : JFrame) (acts : List Action), f.method = m → f.locked = none → f.entered = [] → (doReturn e (T.setTop f) acts v).1 = T.setFrames fs) → Steps p.tables e below (T.setTop (mkF m pc Ls st')) (T.setFrames fs)) :
    ∃ s₂ v, Steps p.tables e below (T.setTop (mkF m pc Ls st')) s₂ ∧ FinN s below rm nf Q s₂ v := by
  obtain ⟨fs, hr, hrun, hended, hW, hsame⟩ := X.leave (v := v) (fun hh => hv (C.2.2.2.2.2.2.1.symm.trans hh)) C.2.2.2.2.2.2.2
  exact ⟨_, v, H fs hr, hrun, hended, locs, ⟨by rw [show (T.setFrames fs).heap = h from eT]; exact hQ, fun y hy => Nat.le_trans hn (N y hy)⟩, ⟨v, rfl⟩, hW, hsame.mono hk hl⟩
theorem g_return {rm : Room} {nf : Nat} {Q : Option Value → Heap → Prop} (C : Cx p s m meth c Z own nm code ml none) (d : decode code pc = .ok (.return_, 1)) (hn : nf ≤ n0) (hk : k ≤ rm.cells) (hl : n ≤ rm.slots) (hQ : Q none h) : Go p l e R s m args below meth c (FinN s below rm nf Q) n0 h k n pc Ls [] :=
  fun T locs X N eT => fin_of C X N eT (fun _ => rfl) hn hk hl hQ fun fs hr => X.returnOut C.1 C.2.2.2.2.2.2.1 (hb C.2.1 d) hr
theorem g_ireturn {rm : Room} {nf : Nat} {Q : Option Value → Heap → Prop} {x : Int32} (C : Cx p s m meth c Z own nm code ml (some .int)) (d : decode code pc = .ok (.ireturn, 1)) (hn : nf ≤ n0) (hk : k ≤ rm.cells) (hl : n ≤ rm.slots) (hQ : Q (some (.int x)) h) : Go p l e R s m args below meth c (FinN s below rm nf Q) n0 h k n pc Ls (.int x :: st) :=
  fun T locs X N eT => fin_of C X N eT (fun hh => nomatch hh) hn hk hl hQ fun fs hr => retI X C.1 C.2.2.2.2.2.2.1 (hb C.2.1 d) hr
theorem g_nreturn {rm : Room} {nf : Nat} {Q : Option Value → Heap → Prop} {x z : Int32} {t : FieldType} (C : Cx p s m meth c Z own nm code ml (some t)) (d : decode code pc = .ok (.ireturn, 1)) (ht : t = .boolean ∨ t = .byte ∨ t = .char ∨ t = .short) (hz : nar t x = z) (hn : nf ≤ n0) (hk : k ≤ rm.cells) (hl : n ≤ rm.slots) (hQ : Q (some (.int z)) h) : Go p l e R s m args below meth c (FinN s below rm nf Q) n0 h k n pc Ls (.int x :: st) :=
  fun T locs X N eT => fin_of (v := some (.int z)) C X N eT (fun hh => nomatch hh) hn hk hl hQ fun fs hr => retN X C.1 C.2.2.2.2.2.2.1 ht (hb C.2.1 d) (by rw [hz]; exact hr)
theorem g_lreturn {rm : Room} {nf : Nat} {Q : Option Value → Heap → Prop} {x : Int64} (C : Cx p s m meth c Z own nm code ml (some .long)) (d : decode code pc = .ok (.lreturn, 1)) (hn : nf ≤ n0) (hk : k ≤ rm.cells) (hl : n ≤ rm.slots) (hQ : Q (some (.long x)) h) : Go p l e R s m args below meth c (FinN s below rm nf Q) n0 h k n pc Ls (.long x :: st) :=
  fun T locs X N eT => fin_of C X N eT (fun hh => nomatch hh) hn hk hl hQ fun fs hr => retOut X C.1 C.2.2.2.2.2.2.1 rfl (Or.inr (Or.inl ⟨rfl, rfl, x, rfl⟩)) (hb C.2.1 d) hr
theorem g_areturn {rm : Room} {nf : Nat} {Q : Option Value → Heap → Prop} {x : Value} {t : FieldType} (C : Cx p s m meth c Z own nm code ml (some t)) (d : decode code pc = .ok (.areturn, 1)) (ht : t.isReference = true) (hx : x.isRef = true) (hn : nf ≤ n0) (hk : k ≤ rm.cells) (hl : n ≤ rm.slots) (hQ : Q (some x) h) : Go p l e R s m args below meth c (FinN s below rm nf Q) n0 h k n pc Ls (x :: st) :=
  fun T locs X N eT => fin_of C X N eT (fun hh => nomatch hh) hn hk hl hQ fun fs hr => retOut X C.1 C.2.2.2.2.2.2.1 (by rcases ref_cases hx with rfl | ⟨a, rfl⟩ <;> cases t <;> first | rfl | cases ht) (Or.inr (Or.inr (Or.inr (Or.inr ⟨rfl, ht, hx⟩)))) (hb C.2.1 d) hr
/-- a callee that pays, at this walk -/
def BK (l : Launch) (R : Room) (p : Program) (e : Env) (below : List Frame) (s : State) (args : Array Value) (y : MethodName) (len W : Nat) (as' : Array Value) (h : Heap) (ck sk n0 : Nat) (Q : Option Value → Heap → Prop) : Prop :=
  Back l R p e below s args y len W (fun A a => a = as' ∧ A.U.heap = h ∧ A.cells + ck ≤ R.cells ∧ A.slots + sk ≤ R.slots) (fun A _ v B => ∃ L, (Q v B.U.heap ∧ Fr n0 L) ∧ B.locs = A.locs ++ L ∧ B.cells = A.cells + ck ∧ B.slots = A.slots + sk)
theorem Ctr.bk {y : MethodName} {bytes : ByteArray} {maxL len W : Nat} {rt : Option FieldType} {rm : Room} {as' : Array Value} {Q : Option Value → Heap → Prop} (M : Ctr l Z y bytes maxL rt rm as' h n0 Q) (C : Cx p s m meth c Z own nm code ml ret) (w4 : (Cond.code y bytes maxL rt).before a0 Z = true) (w3 : (Cond.initialized y.cls).before a0 Z = true) (hf : rm.frames + 1 ≤ R.frames) (hl : W + (maxL + 11) + rm.locals ≤ R.locals) : BK l R p e below s args y len W as' h rm.cells rm.slots n0 Q :=
  backOf (W := W) (Q := fun v h' L => Q v h' ∧ Fr n0 L) M C.2.2.2.2.1 w4 w3 hf hl
theorem g_callS (C : Cx p s m meth c Z own nm code ml ret) {y : MethodName} {bytes : ByteArray} {maxL ck sk : Nat} {rt : Option FieldType} {Q : Option Value → Heap → Prop} {index W : Nat} {argsL : List Value} (d : decode code pc = .ok (.invokestatic index, 3)) (w1 : (Cond.methodLink own index y).before a0 Z = true) (w2 : (Cond.static y).before a0 Z = true) (w3 : (Cond.initialized y.cls).before a0 Z = true) (w4 : (Cond.code y bytes maxL rt).before a0 Z = true) (hy : y.cls ≠ "java/lang/invoke/MethodHandle" ∧ y.cls ≠ "java/lang/invoke/VarHandle")
    (M : BK l R p e below s args y 3 W argsL.toArray h ck sk n0 Q) (hc : k + ck ≤ R.cells) (hs : n + sk ≤ R.slots) (hsz : Ls.size = ml) (hlen : ∀ sig, parseMethodDescriptor y.desc = some sig → argsL.length = sig.parameters.length) (hst : st = argsL.reverse ++ rest) (hW : (rest.map fun v => v.category).sum = W) (hq : pc + 3 = q)
    (K : ∀ v h', Q v h' → ∃ st', st' = v.toList ++ rest ∧ Go p l e R s m args below meth c Ph n0 h' (k + ck) (n + sk) q Ls st') : Go p l e R s m args below meth c Ph n0 h k n pc Ls st := fun T locs X N eT => by
  have hZ := C.2.2.2.2.1
  obtain ⟨v, vm1, ⟨T', L', k', n'⟩, -, X', ⟨L, ⟨hQ, NL⟩, l1, l2, l3⟩, stp⟩ := Jvm.LawKit.callS X C.1 (y := y) C.2.2.2.1 (mvT hZ w1) (mvT hZ w2) (mvT hZ w3) (mvT hZ w4) hy M (g := mkF m pc Ls st) rfl (hsz.trans C.2.2.1.symm) (argsL := argsL) (rest := rest) hlen hst (by show 2 * 0 + _ ≤ _; rw [hW]; omega) (hb C.2.1 d) (fun _ _ => ⟨rfl, eT, hc, hs⟩)
  dsimp only [Pt.U, Pt.locs, Pt.cells, Pt.slots] at X' l1 l2 l3 stp
  subst l1 l2 l3
  obtain ⟨st', hst', K'⟩ := K v _ hQ
  obtain ⟨s₂, v', S, r⟩ := K' _ _ X' (N.app NL) rfl
  exact ⟨s₂, v', stp _ (by subst hq hst'; exact S), r⟩
theorem g_callI (C : Cx p s m meth c Z own nm code ml ret) {y : MethodName} {bytes : ByteArray} {maxL ck sk : Nat} {Q : Option Value → Heap → Prop} {index W : Nat} {argsL : List Value} {a : Addr} (d : decode code pc = .ok (.invokespecial index, 3)) (hy1 : y.name = "<init>") (w1 : (Cond.methodLink own index y).before a0 Z = true) (w2 : (Cond.instanceMethod y).before a0 Z = true) (w4 : (Cond.code y bytes maxL none).before a0 Z = true) (hy : y.cls ≠ "java/lang/invoke/MethodHandle" ∧ y.cls ≠ "java/lang/invoke/VarHandle")
    (M : BK l R p e below s args y 3 W (.ref a :: argsL).toArray h ck sk n0 Q) (hc : k + ck ≤ R.cells) (hs : n + sk ≤ R.slots) (hsz : Ls.size = ml) (hlen : ∀ sig, parseMethodDescriptor y.desc = some sig → argsL.length = sig.parameters.length) (hst : st = argsL.reverse ++ .ref a :: rest) (hW : (rest.map fun v => v.category).sum = W) (hq : pc + 3 = q)
    (K : ∀ v h', Q v h' → ∃ st', st' = v.toList ++ rest ∧ Go p l e R s m args below meth c Ph n0 h' (k + ck) (n + sk) q Ls st') : Go p l e R s m args below meth c Ph n0 h k n pc Ls st := fun T locs X N eT => by
  have hZ := C.2.2.2.2.1
  obtain ⟨v, vm1, ⟨T', L', k', n'⟩, -, X', ⟨L, ⟨hQ, NL⟩, l1, l2, l3⟩, stp⟩ := X.specialBack C.1 (y := y) hy1 C.2.2.2.1 (mvT hZ w1) (mvT hZ w2) (mvT hZ w4) hy M (g := mkF m pc Ls st) rfl (hsz.trans C.2.2.1.symm) (Steps.refl _) (a := a) (argsL := argsL) (rest := rest) hlen hst (by show 2 * 0 + _ ≤ _; rw [hW]; omega) (hb C.2.1 d) (fun _ _ => ⟨rfl, eT, hc, hs⟩)
  dsimp only [Pt.U, Pt.locs, Pt.cells, Pt.slots] at X' l1 l2 l3 stp
  subst l1 l2 l3
  obtain ⟨st', hst', K'⟩ := K v _ hQ
  obtain ⟨s₂, v', S, r⟩ := K' _ _ X' (N.app NL) rfl
  exact ⟨s₂, v', stp.trans (by subst hq hst'; exact S), r⟩
theorem g_callV (C : Cx p s m meth c Z own nm code ml ret) {y : MethodName} {ck sk : Nat} {Q : Option Value → Heap → Prop} {index W : Nat} {argsL : List Value} {y0 : MethodName} {Cl : String} {a : Addr} (d : decode code pc = .ok (.invokevirtual index, 3)) (w1 : (Cond.methodLink own index y0).before a0 Z = true) (w2 : (Cond.declares y0).before a0 Z = true) (w5 : (Cond.selects Cl y0 y).before a0 Z = true) (w6 : (Cond.instanceMethod y).before a0 Z = true) (hy : y0.cls ≠ "java/lang/invoke/MethodHandle" ∧ y0.cls ≠ "java/lang/invoke/VarHandle") (hnf : NotFace s y0)
    (E : Exa Z h a Cl) (M : BK l R p e below s args y 3 W (.ref a :: argsL).toArray h ck sk n0 Q) (hc : k + ck ≤ R.cells) (hs : n + sk ≤ R.slots) (hsz : Ls.size = ml) (hlen : ∀ sig, parseMethodDescriptor y0.desc = some sig → argsL.length = sig.parameters.length) (hst : st = argsL.reverse ++ .ref a :: rest) (hW : (rest.map fun v => v.category).sum = W) (hq : pc + 3 = q)
    (K : ∀ v h', Q v h' → ∃ st', st' = v.toList ++ rest ∧ Go p l e R s m args below meth c Ph n0 h' (k + ck) (n + sk) q Ls st') : Go p l e R s m args below meth c Ph n0 h k n pc Ls st := fun T locs X N eT => by
  have hZ := C.2.2.2.2.1
  obtain ⟨cq, kq, qa, qb, qc⟩ := isOf hZ eT E
  obtain ⟨v, vm1, ⟨T', L', k', n'⟩, -, X', ⟨L, ⟨hQ, NL⟩, l1, l2, l3⟩, stp⟩ := X.virtualBack C.1 (y := y0) (z := y) C.2.2.2.1 (mvT hZ w1) (mvT hZ w2) hnf (mvT hZ w5) (mvT hZ w6) hy M qa qc (g := mkF m pc Ls st) rfl (hsz.trans C.2.2.1.symm) (Steps.refl _) (argsL := argsL) (rest := rest) hlen hst (by show 2 * 0 + _ ≤ _; rw [hW]; omega) (hb C.2.1 d) (fun _ _ => ⟨rfl, eT, hc, hs⟩)
  dsimp only [Pt.U, Pt.locs, Pt.cells, Pt.slots] at X' l1 l2 l3 stp
  subst l1 l2 l3
  obtain ⟨st', hst', K'⟩ := K v _ hQ
  obtain ⟨s₂, v', S, r⟩ := K' _ _ X' (N.app NL) rfl
  exact ⟨s₂, v', stp.trans (by subst hq hst'; exact S), r⟩
theorem g_callP (C : Cx p s m meth c Z own nm code ml ret) {y : MethodName} {bytes : ByteArray} {maxL ck sk : Nat} {rt : Option FieldType} {Q : Option Value → Heap → Prop} {index W : Nat} {argsL : List Value} {Cl : String} {a : Addr} (d : decode code pc = .ok (.invokevirtual index, 3)) (w1 : (Cond.methodLink own index y).before a0 Z = true) (w2 : (Cond.instanceMethod y).before a0 Z = true) {kk : Nat} (wi : (Cond.instantiable y.cls kk).before a0 Z = true) (w4 : (Cond.code y bytes maxL rt).before a0 Z = true) (hy : y.cls ≠ "java/lang/invoke/MethodHandle" ∧ y.cls ≠ "java/lang/invoke/VarHandle") (hpr : s.PrivateAt y)
    (E : Exa Z h a Cl) (M : BK l R p e below s args y 3 W (.ref a :: argsL).toArray h ck sk n0 Q) (hc : k + ck ≤ R.cells) (hs : n + sk ≤ R.slots) (hsz : Ls.size = ml) (hlen : ∀ sig, parseMethodDescriptor y.desc = some sig → argsL.length = sig.parameters.length) (hst : st = argsL.reverse ++ .ref a :: rest) (hW : (rest.map fun v => v.category).sum = W) (hq : pc + 3 = q)
    (K : ∀ v h', Q v h' → ∃ st', st' = v.toList ++ rest ∧ Go p l e R s m args below meth c Ph n0 h' (k + ck) (n + sk) q Ls st') : Go p l e R s m args below meth c Ph n0 h k n pc Ls st := fun T locs X N eT => by
  have hZ := C.2.2.2.2.1
  obtain ⟨ce, hce, hob⟩ := E.cell
  obtain ⟨ci, ki, hci, hki, -, hni, -⟩ := Cond.instantiable_spec (mv (args := args) hZ wi)
  simp only [Bool.or_eq_false_iff] at hni
  have w5 : (Cond.selects y.cls y y).before args s = true := Jvm.Stand.selects_self_of_private hci hki hni.1 hpr (mvT hZ w2) hy
  obtain ⟨v, vm1, ⟨T', L', k', n'⟩, -, X', ⟨L, ⟨hQ, NL⟩, l1, l2, l3⟩, stp⟩ := X.privateBack C.1 (y := y) C.2.2.2.1 (mvT hZ w1) (mvT hZ w2) w5 hpr (mvT hZ w4) hy M (g := mkF m pc Ls st) rfl (hsz.trans C.2.2.1.symm) (Steps.refl _) (a := a) (cell := ce) (by rw [eT]; exact hce) hob (argsL := argsL) (rest := rest) hlen hst (by show 2 * 0 + _ ≤ _; rw [hW]; omega) (hb C.2.1 d) (fun _ _ => ⟨rfl, eT, hc, hs⟩)
  dsimp only [Pt.U, Pt.locs, Pt.cells, Pt.slots] at X' l1 l2 l3 stp
  subst l1 l2 l3
  obtain ⟨st', hst', K'⟩ := K v _ hQ
  obtain ⟨s₂, v', S, r⟩ := K' _ _ X' (N.app NL) rfl
  exact ⟨s₂, v', stp.trans (by subst hq hst'; exact S), r⟩
theorem g_callF (C : Cx p s m meth c Z own nm code ml ret) {y : MethodName} {ck sk : Nat} {Q : Option Value → Heap → Prop} {index W : Nat} {argsL : List Value} {xi : MethodName} {Cl : String} {a : Addr} {count : Nat} (d : decode code pc = .ok (.invokeinterface index count, 5)) (w1 : (Cond.methodLink own index xi).before a0 Z = true) (w2 : (Cond.declares xi).before a0 Z = true) (w3 : (Cond.interfaceMethod xi.cls xi.cls xi.name xi.desc).before a0 Z = true) (w5 : (Cond.selects Cl xi y).before a0 Z = true) (w6 : (Cond.instanceMethod y).before a0 Z = true) (w7 : (Cond.publicMethod y).before a0 Z = true) (w8 : (Cond.unhidden Cl xi.name xi.desc).before a0 Z = true) (w9 : (Cond.castable Cl xi.cls).before a0 Z = true) (hfa : ((Cond.interfaceMethod xi.cls xi.cls xi.name xi.desc).onTables && (Cond.interfaceMethod xi.cls xi.cls xi.name xi.desc).keepsFace) = true) (hy : xi.cls ≠ "java/lang/invoke/MethodHandle" ∧ xi.cls ≠ "java/lang/invoke/VarHandle")
    (E : Exa Z h a Cl) (M : BK l R p e below s args y 5 W (.ref a :: argsL).toArray h ck sk n0 Q) (hc : k + ck ≤ R.cells) (hs : n + sk ≤ R.slots) (hsz : Ls.size = ml) (hlen : ∀ sig, parseMethodDescriptor xi.desc = some sig → argsL.length = sig.parameters.length) (hst : st = argsL.reverse ++ .ref a :: rest) (hW : (rest.map fun v => v.category).sum = W) (hq : pc + 5 = q)
    (K : ∀ v h', Q v h' → ∃ st', st' = v.toList ++ rest ∧ Go p l e R s m args below meth c Ph n0 h' (k + ck) (n + sk) q Ls st') : Go p l e R s m args below meth c Ph n0 h k n pc Ls st := fun T locs X N eT => by
  have hZ := C.2.2.2.2.1
  obtain ⟨cq, kq, qa, qb, qc⟩ := isOf hZ eT E
  obtain ⟨v, vm1, ⟨T', L', k', n'⟩, -, X', ⟨L, ⟨hQ, NL⟩, l1, l2, l3⟩, stp⟩ := X.interfaceBack C.1 (xi := xi) (y := y) C.2.2.2.1 (mvT hZ w1) (mvT hZ w2) (mvT hZ w3 hfa) (mvT hZ w5) (mvT hZ w6) (mvT hZ w7) (mvT hZ w8) (mvT hZ w9) hy M qa qb qc (g := mkF m pc Ls st) rfl (hsz.trans C.2.2.1.symm) (Steps.refl _) (argsL := argsL) (rest := rest) hlen hst (by show 2 * 0 + _ ≤ _; rw [hW]; omega) (hb C.2.1 d) (fun _ _ => ⟨rfl, eT, hc, hs⟩)
  dsimp only [Pt.U, Pt.locs, Pt.cells, Pt.slots] at X' l1 l2 l3 stp
  subst l1 l2 l3
  obtain ⟨st', hst', K'⟩ := K v _ hQ
  obtain ⟨s₂, v', S, r⟩ := K' _ _ X' (N.app NL) rfl
  exact ⟨s₂, v', stp.trans (by subst hq hst'; exact S), r⟩
theorem nf_of {y : MethodName} {Cl : String} (C : Cx p s m meth c Z own nm code ml ret) (w : (Cond.selects Cl y y).before a0 Z = true) : NotFace s y := notFace_of_selects (args := #[]) (mvT C.2.2.2.2.1 w)
theorem priv_of {y : MethodName} (C : Cx p s m meth c Z own nm code ml ret) (w : (Cond.privateMethod y).before a0 Z = true) : s.PrivateAt y := Cond.privateMethod_at (args := #[]) (mvP C.2.2.2.2.1 w)
theorem Av.arv {a : Addr} {ty : FieldType} {N : Nat} {f : Nat → Value} {vs : List Value} {dv : Value} (A : Av Z h a ty N f) (hf : ∀ j, j < N → f j = vs.getD j dv) (hfit : ∀ j, j < N → fits ty (vs.getD j dv) = true) : ∃ kA, Arv Z h a kA ty (Int32.ofNat N) vs dv := by
  obtain ⟨c', A, r1, r2, r3⟩ := A
  have e : (Int32.ofNat N).toNatClampNeg = N := Int32.toNatClampNeg_ofNat_of_lt r2
  refine ⟨c'.cls, c', A, rfl, by rw [e]; exact r1, ?_, fun j hj => by rw [r3 j (r1 ▸ hj), hf j (r1 ▸ hj)], fun j hj => hfit j (r1 ▸ hj)⟩
  intro q
  have := Int32.lt_iff_toInt_lt.mp q
  rw [Int32.toInt_ofNat_of_lt r2] at this
  simp at this
  omega
theorem app_less {ws : List Cond} {c0 : Cond} {rm : Room} {y : MethodName} {pl : Platform} {sa : State} {ma : MethodId} {aa : Array Value} {ba : List Frame} (hf : sa.frames = .invoking ma aa :: ba) (hh : (head1 (c0 :: ws) rm).appliesLoose y pl sa = true) : (head1 [c0] rm).appliesLoose y pl sa = true := by
  obtain ⟨h1, h2, h3, h4, h5, h6, h7, h8⟩ := (Spec.appliesLoose_iff hf).mp hh
  refine (Spec.appliesLoose_iff hf).mpr ⟨h1, h2, h3, h4, h5, h6, h7, ?_⟩
  show (Cond.and c0 .tt).before aa sa = true
  rw [Cond.before_and, atoms_spec (ws := c0 :: ws) h8 c0 (List.mem_cons_self ..)]; rfl
theorem own_cat {v : Value} (hr : v.isRef = true) : v.category = 1 := by rcases ref_cases hr with rfl | ⟨a, rfl⟩ <;> rfl
theorem own_nar {v : Value} {cn : String} (hr : v.isRef = true) : narrow (.object cn) v = v := by rcases ref_cases hr with rfl | ⟨a, rfl⟩ <;> rfl
theorem own_fit {v : Value} {cn : String} (hr : v.isRef = true) : fits (.object cn) v = true := by rcases ref_cases hr with rfl | ⟨a, rfl⟩ <;> rfl
theorem Ext.keep {h0 h h' : Heap} {ws : List Addr} (E : Ext h0 h) (K : Keep h h' ws) (q : ∀ x ∈ ws, h0.size ≤ x) : Ext h0 h' := ⟨Nat.le_trans E.1 K.1, fun a c hc => K.2.1 a c (E.2 a c hc) fun hm => Nat.not_lt.mpr (q a hm) (Array.getElem?_eq_some_iff.mp hc).1⟩
theorem Ext.wr {h0 h h' : Heap} {a : Addr} {sl : Nat} {v : Value} (E : Ext h0 h) (W : Wr h h' a sl v) (q : h0.size ≤ a) : Ext h0 h' := Ext.keep E (Keep.of_wr W) fun x hx => by cases List.mem_singleton.mp hx; exact q
theorem Ext.tr {h0 h h' : Heap} (E : Ext h0 h) (E' : Ext h h') : Ext h0 h' := ⟨Nat.le_trans E.1 E'.1, fun a c hc => E'.2 a c (E.2 a c hc)⟩
theorem Ext.rfl' (h : Heap) : Ext h h := ⟨Nat.le_refl _, fun _ _ q => q⟩
theorem Ext.kp {h h' : Heap} (E : Ext h h') (ws : List Addr) : Keep h h' ws := (Keep.refl h ws).ext E
/-- an array of references of a class, which takes its objects -/
def Ao (Z : State) (h : Heap) (a : Addr) (Cl : String) (N : Nat) (f : Nat → Value) : Prop := ∃ c : Cell, Arr Z h a c (.object Cl) ∧ Ovr Z c.cls Cl ∧ c.slots.size = N ∧ N < 2 ^ 31 ∧ ∀ j, j < N → c.slots[j]? = some (f j)
theorem Ao.av {a : Addr} {Cl : String} {N : Nat} {f : Nat → Value} (A : Ao Z h a Cl N f) : Av Z h a (.object Cl) N f := by obtain ⟨c, A, -, r⟩ := A; exact ⟨c, A, r⟩
theorem Ao.lt {a : Addr} {Cl : String} {N : Nat} {f : Nat → Value} (A : Ao Z h a Cl N f) : a < h.size := A.av.lt
theorem Ao.ext {h' : Heap} {a : Addr} {Cl : String} {N : Nat} {f : Nat → Value} (A : Ao Z h a Cl N f) (E : Ext h h') : Ao Z h' a Cl N f := by obtain ⟨c, A, r⟩ := A; exact ⟨c, A.ext E, r⟩
theorem Ao.other {h' : Heap} {a b : Addr} {Cl : String} {N sl : Nat} {v : Value} {f : Nat → Value} (A : Ao Z h b Cl N f) (W : Wr h h' a sl v) (ne : b ≠ a) : Ao Z h' b Cl N f := by obtain ⟨c, A, r⟩ := A; exact ⟨c, A.other W ne, r⟩
theorem Ao.keep {h' : Heap} {a : Addr} {Cl : String} {N : Nat} {f : Nat → Value} {ws : List Addr} (A : Ao Z h a Cl N f) (K : Keep h h' ws) (ne : a ∉ ws) : Ao Z h' a Cl N f := by obtain ⟨c, A, r⟩ := A; exact ⟨c, ⟨K.2.1 a c A.1 ne, A.2⟩, r⟩
theorem Ao.set {h' : Heap} {a : Addr} {Cl : String} {N i : Nat} {v : Value} {f : Nat → Value} (A : Ao Z h a Cl N f) (W : Wr h h' a i v) (hi : i < N) : Ao Z h' a Cl N (fun j => if j = i then v else f j) := by
  obtain ⟨c, A, O, r1, r2, r3⟩ := A
  refine ⟨c.setSlot i v, A.same W, O, by rw [sz_set]; exact r1, r2, fun j hj => ?_⟩
  by_cases e : j = i
  · subst e; simp [Cell.setSlot, r1, hi]
  · show (c.setSlot i v).slots[j]? = some (if j = i then v else f j)
    rw [if_neg e, ← r3 j hj]; simp [Cell.setSlot, Array.getElem?_setIfInBounds_ne (Ne.symm e)]
theorem Ao.sto {a y : Addr} {Cl : String} {N : Nat} {f : Nat → Value} (A : Ao Z h a Cl N f) (I : Ins Z h y Cl true) : Sto Z h a (.ref y) := by obtain ⟨c, A, O, -⟩ := A; exact Sto.of A O I
theorem Ao.new {a : Addr} {Cl : String} {cA : ClassId} {N' : Int32} (A : Arr Z h a (newA cA (.object Cl) N') (.object Cl)) (O : Ovr Z cA Cl) (hn : ¬ N' < 0) : Ao Z h a Cl N'.toNatClampNeg (fun _ => .null) :=
  ⟨_, A, O, sz_new _ _ _, (back32 hn).2, fun j hj => by simp [newA, hj, defaultValue]⟩
theorem Av.fitc {a : Addr} {ty : FieldType} {N : Nat} {f : Nat → Value} (A : Av Z h a ty N f) (hf : ∀ j, j < N → fits ty (f j) = true) : ∃ cl, Arr Z h a cl ty ∧ cl.slots.size = N ∧ N < 2 ^ 31 ∧ (∀ j, j < N → cl.slots[j]? = some (f j)) ∧ FitC Z cl := by
  obtain ⟨cl, A, r1, r2, r3⟩ := A
  refine ⟨cl, A, r1, r2, r3, fun i v hv => ?_⟩
  obtain ⟨hi, -⟩ := Array.getElem?_eq_some_iff.mp hv
  obtain ⟨hs, kk, hk, comp, hkind⟩ := A.2.1
  have e1 := r3 i (r1 ▸ hi)
  rw [hv] at e1
  cases e1
  simp [State.fitsSlot, State.slotType?, hk, hkind, hf i (r1 ▸ hi)]
theorem g_newarrayE (C : Cx p s m meth c Z own nm code ml ret) {aty : ArrayType} {N' : Int32} {cap : Nat} {ad : String} (d : decode code pc = .ok (.newarray aty, 2)) (w : (Cond.arrayClass (newarray.typeOf aty)).before a0 Z = true) (hn : ¬ N' < 0) (hcap : N'.toNatClampNeg ≤ cap) (hbg : cap * 8 ≤ 536870912) (hc : k + 1 ≤ R.cells) (hl : n + cap ≤ R.slots) (had : "[" ++ (newarray.typeOf aty).toString = ad) (hq : pc + 2 = q)
    (K : ∀ (a : Addr) (h' : Heap) (cA : ClassId), a = h.size → Ext h h' → Arr Z h' a (newA cA (newarray.typeOf aty) N') (newarray.typeOf aty) → Exa Z h' a ad → Go p l e R s m args below meth c Ph n0 h' (k + 1) (n + cap) q Ls (.ref a :: st)) : Go p l e R s m args below meth c Ph n0 h k n pc Ls (.int N' :: st) := fun T locs X N eT => by
  obtain ⟨T', h', cA, X', e', E, A, EA, stp⟩ := newPE X C.1 C.2.2.2.2.1 w eT (g := mkF m pc Ls (.int N' :: st)) rfl (hb C.2.1 d) rfl hn hcap hbg hc hl had
  obtain ⟨s₂, v, S, r⟩ := K _ h' cA rfl E A EA T' locs X' N e'
  exact ⟨s₂, v, stp _ (by subst hq; exact S), r⟩
theorem g_clone (C : Cx p s m meth c Z own nm code ml ret) {ad : String} {index W cap N : Nat} {a : Addr} {ty : FieldType} {f : Nat → Value} (d : decode code pc = .ok (.invokevirtual index, 3)) (w1 : (Cond.methodLink own index ⟨ad, "clone", "()Ljava/lang/Object;"⟩).before a0 Z = true) (w2 : (Cond.sameMethod ad "java/lang/Object" "clone" "()Ljava/lang/Object;").before a0 Z = true) (w3 : (Cond.native ⟨"java/lang/Object", "clone", "()Ljava/lang/Object;"⟩).before a0 Z = true)
    (w4 : (Cond.instanceMethod ⟨"java/lang/Object", "clone", "()Ljava/lang/Object;"⟩).before a0 Z = true) (w5 : (Cond.selects ad ⟨ad, "clone", "()Ljava/lang/Object;"⟩ ⟨"java/lang/Object", "clone", "()Ljava/lang/Object;"⟩).before a0 Z = true) (w6 : (Cond.castable ad "java/lang/Cloneable").before a0 Z = true)
    (A : Av Z h a ty N f) (hfit : ∀ j, j < N → fits ty (f j) = true) (E : Exa Z h a ad) (hsz : Ls.size = ml) (hf : 1 ≤ R.frames) (hW : (st.map fun v => v.category).sum = W) (hl : W + 14 ≤ R.locals) (hcap : N ≤ cap) (hc : k + 1 ≤ R.cells) (hsl : n + cap ≤ R.slots) (hq : pc + 3 = q)
    (K : ∀ (b : Addr) (h' : Heap), b = h.size → Ext h h' → Av Z h' b ty N f → Exa Z h' b ad → Go p l e R s m args below meth c Ph n0 h' (k + 1) (n + cap) q Ls (.ref b :: st)) : Go p l e R s m args below meth c Ph n0 h k n pc Ls (.ref a :: st) := fun T locs X N' eT => by
  obtain ⟨cl, A, r1, r2, r3, FC⟩ := A.fitc hfit
  obtain ⟨T', h', X', e', E', A', EA, stp⟩ := cloneA X C.1 C.2.2.2.2.1 C.2.2.2.1 w1 w2 w3 w4 w5 w6 eT A E FC (g := mkF m pc Ls (.ref a :: st)) rfl (hsz.trans C.2.2.1.symm) rfl (hb C.2.1 d) hf (W := W) (cap := cap) (by show 2 * 0 + _ ≤ _; rw [hW]; omega) hl (by rw [r1]; exact hcap) hc hsl
  obtain ⟨s₂, v, S, r⟩ := K _ h' rfl E' ⟨_, A', r1, r2, r3⟩ EA T' locs X' N' e'
  exact ⟨s₂, v, stp _ (by subst hq; exact S), r⟩
theorem Av.rng {a : Addr} {ty : FieldType} {N : Nat} {f : Nat → Value} (A : Av Z h a ty N f) (hf : ∀ j, j < N → fits ty (f j) = true) (dv : Value) : ∃ kA, Arv Z h a kA ty (Int32.ofNat N) ((List.range N).map f) dv :=
  A.arv (fun j hj => by simp [List.getD, hj]) (fun j hj => by simpa [List.getD, hj] using hf j hj)
theorem Av.of_arv {a : Addr} {ty : FieldType} {N : Nat} {kA : ClassId} {z : Int32} {vs : List Value} {dv : Value} (A : Arv Z h a kA ty z vs dv) (hz : z.toNatClampNeg = N) : Av Z h a ty N (fun j => vs.getD j dv) := by
  obtain ⟨c', A, -, r1, r2, H, -⟩ := A
  rw [hz] at r1
  exact ⟨c', A, r1, by rw [← hz]; exact (back32 r2).2, fun j hj => H j (by rw [r1]; exact hj)⟩
theorem nn32 {i : Nat} (hi : i < 2 ^ 31) : ¬ Int32.ofNat i < 0 := by
  rw [Int32.lt_iff_toInt_lt, Int32.toInt_ofNat_of_lt hi]; have e0 : (0 : Int32).toInt = 0 := rfl; omega
theorem g_acopy (C : Cx p s m meth c Z own nm code ml ret) {index W N M sp dp nn : Nat} {a b : Addr} {ty : FieldType} {f f' : Nat → Value} {i1 i2 i3 : Int32} (d : decode code pc = .ok (.invokestatic index, 3)) (w1 : (Cond.methodLink own index Jvm.Stand.acN).before a0 Z = true) (w2 : (Cond.native Jvm.Stand.acN).before a0 Z = true) (w3 : (Cond.static Jvm.Stand.acN).before a0 Z = true) (w4 : (Cond.initialized "java/lang/System").before a0 Z = true)
    (A : Av Z h a ty N f) (B : Av Z h b ty M f') (hrk : refKind ty = false) (hfa : ∀ j, j < N → fits ty (f j) = true) (hfb : ∀ j, j < M → fits ty (f' j) = true) (e1 : i1 = Int32.ofNat sp) (e2 : i2 = Int32.ofNat dp) (e3 : i3 = Int32.ofNat nn) (h1 : sp + nn ≤ N) (h2 : dp + nn ≤ M) (ge : n0 ≤ b) (hsz : Ls.size = ml) (hf : 1 ≤ R.frames) (hW : (st.map fun v => v.category).sum = W) (hl : W + (nativeFrameWords "java/lang/System" "arraycopy" 5 + 11) ≤ R.locals) (hq : pc + 3 = q)
    (K : ∀ (h' : Heap), Keep h h' [b] → Av Z h' b ty M (fun j => if dp ≤ j ∧ j < dp + nn then f (sp + (j - dp)) else f' j) → Go p l e R s m args below meth c Ph n0 h' k n q Ls st) : Go p l e R s m args below meth c Ph n0 h k n pc Ls (.int i3 :: .int i2 :: .ref b :: .int i1 :: .ref a :: st) := fun T locs X N' eT => by
  have hN : N < 2 ^ 31 := by obtain ⟨_, _, _, r, _⟩ := A; exact r
  have hM : M < 2 ^ 31 := by obtain ⟨_, _, _, r, _⟩ := B; exact r
  obtain ⟨kA, A1⟩ := A.rng hfa .null
  obtain ⟨kB, B1⟩ := B.rng hfb .null
  have t1 : (Int32.ofNat sp).toNatClampNeg = sp := Int32.toNatClampNeg_ofNat_of_lt (by omega)
  have t2 : (Int32.ofNat dp).toNatClampNeg = dp := Int32.toNatClampNeg_ofNat_of_lt (by omega)
  have t3 : (Int32.ofNat nn).toNatClampNeg = nn := Int32.toNatClampNeg_ofNat_of_lt (by omega)
  have t4 : (Int32.ofNat N).toNatClampNeg = N := Int32.toNatClampNeg_ofNat_of_lt hN
  have t5 : (Int32.ofNat M).toNatClampNeg = M := Int32.toNatClampNeg_ofNat_of_lt hM
  subst e1 e2 e3
  obtain ⟨T', h', L, X', e', N2, Kp, Bv, stp⟩ := cpA X C.1 C.2.2.2.2.1 C.2.2.2.1 w1 w2 w3 w4 eT A1 B1 (Or.inl ⟨rfl, hrk⟩) (nn32 (by omega)) (nn32 (by omega)) (nn32 (by omega)) (by rw [t1, t3, t4]; exact h1) (by rw [t2, t3, t5]; exact h2) rfl (by rw [t2, t3]; simpa using h2) N' ge (g := mkF m pc Ls (.int (Int32.ofNat nn) :: .int (Int32.ofNat dp) :: .ref b :: .int (Int32.ofNat sp) :: .ref a :: st)) rfl (hsz.trans C.2.2.1.symm) rfl (hb C.2.1 d) hf (W := W) (by show 2 * 0 + _ ≤ _; rw [hW]; omega) hl
  have B2 := (Av.of_arv Bv t5).congr (g := fun j => if dp ≤ j ∧ j < dp + nn then f (sp + (j - dp)) else f' j) (fun j hj => by
    rw [t1, t2, t3]
    simp only [List.getD_eq_getElem?_getD]
    by_cases c1 : j < dp
    · rw [if_neg (by omega), List.append_assoc, List.getElem?_append_left (by simp; omega), List.getElem?_take_of_lt c1]
      simp [hj]
    · by_cases c2 : j < dp + nn
      · rw [if_pos ⟨by omega, c2⟩, List.getElem?_append_left (by simp; omega), List.getElem?_append_right (by simp; omega)]
        simp [show min dp M = dp by omega, show j - dp < nn by omega, show sp + (j - dp) < N by omega]
      · rw [if_neg (by omega), List.getElem?_append_right (by simp; omega)]
        simp [show min dp M = dp by omega, show dp + nn + (j - (dp + nn)) = j by omega, hj])
  obtain ⟨s₂, v, S, r⟩ := K h' Kp B2 T' L X' N2 e'
  exact ⟨s₂, v, stp _ (by subst hq; exact S), r⟩
end GoRules
/-! ## The wide walk: literals may be loaded (the tables' interned strings grow); the Stand is over s0 with the tables of the moment -/
section GoWide
variable {p : Program} {l : Launch} {e : Env} {R : Room} {s0 : State} {vm0 : Vm} {m : MethodId} {args : Array Value} {below : List Frame} {meth : Method} {c : Code} {Ph : State → Option Value → Prop} {n0 : Nat} {h : Heap} {k n : Nat} {pc q : Nat} {Ls : Array Slot} {st rest : List Value} {Z : State} {a0 : Array Value} {own nm : String} {code : ByteArray} {ml : Nat} {ret : Option FieldType}
def Sn (s0 : State) (vm0 : Vm) (h : Heap) : Prop := ∃ k0, s0.Since vm0 k0 ∧ k0 ≤ h.size
theorem Sn.mono {h' : Heap} (S : Sn s0 vm0 h) (q : h.size ≤ h'.size) : Sn s0 vm0 h' := by obtain ⟨k0, h1, h2⟩ := S; exact ⟨k0, h1, Nat.le_trans h2 q⟩
theorem IB.warm {vm1 : Vm} {Ts : List String} (I : IB Z vm0 Ts) (hW : (s0.setVm vm0).WarmedH vm1) : IB Z vm1 Ts := by
  obtain ⟨more, e, hm⟩ := I
  exact ⟨more, (hW.interned_eq).trans e, hm⟩
def CtrW (l : Launch) (Z : State) (y : MethodName) (bytes : ByteArray) (maxL : Nat) (rt : Option FieldType) (rm : Room) (as' : Array Value) (hs : Heap) (nf : Nat) (P : Vm → Prop) (Q : Option Value → Vm → Heap → Prop) : Prop :=
  MetFree l y (head1 [Cond.code y bytes maxL rt] rm) (fun a U => a = as' ∧ Z.Warmed39 U.vm ∧ U.heap = hs ∧ P U.vm) (fun _ _ _ _ _ => True) (fun _ U o U' => ∃ v L, o = .returned v ∧ (Q v U'.vm U'.heap ∧ Fr nf L) ∧ ReturnedEndW U o U' L rm.cells rm.slots)
def FinW (s0 : State) (below : List Frame) (rm : Room) (nf : Nat) (Q : Option Value → Vm → Heap → Prop) : State → Option Value → Prop :=
  fun s₂ v => s₂.status = .running ∧ Ended s₂ below (.returned v) ∧ ∃ L, (Q v s₂.vm s₂.heap ∧ Fr nf L) ∧ ReturnedEndW s0 (.returned v) s₂ L rm.cells rm.slots
theorem CtrW.of {l : Launch} {Z : State} {y : MethodName} {bytes : ByteArray} {maxL : Nat} {rt : Option FieldType} {rm : Room} {as' : Array Value} {hs : Heap} {nf : Nat} {P : Vm → Prop} {Q : Option Value → Vm → Heap → Prop} {n1 : Nat} (Ls : Array Slot) (hp : plainFor y = true) (hE : ∀ m, entryFrame m as' maxL = mkF m 0 Ls [])
    (B : ∀ (p : Program) (e : Env) (s0 : State) (vm0 : Vm) (m : MethodId) (below : List Frame) (meth : Method) (c : Code), Cx p (s0.setVm vm0) m meth c Z y.cls y.name bytes maxL rt → s0.heap = hs → P vm0 → Sn s0 vm0 hs → Go p l e rm (s0.setVm vm0) m as' below meth c (FinW s0 below rm nf Q) n1 hs 0 0 0 Ls []) : CtrW l Z y bytes maxL rt rm as' hs nf P Q := by
  refine MetFree.of_bodySF hp hisR ?_
  intro p e s m args below meth c s₁ Bd hml0 hP hK
  obtain ⟨rfl, hZ, hh, hPv⟩ := hP
  have X0 : Stand p l e rm s m _ below meth c s₁ [] 0 0 := Stand.of_body Bd
  have e0 : s₁.heap = hs := by rw [← hh, Bd.state]; rfl
  have S0 : Sn s s.vm hs := ⟨s.heap.size, (State.WarmedH.refl s).since _, by rw [hh]; exact Nat.le_refl _⟩
  obtain ⟨s₂, v, S, r1, r2, L, r3, r4⟩ := B p e s s.vm m below meth c ⟨Bd.exec, Bd.bytes, hml0, findClass_of_methodNamed Bd.named, hZ, (name_of_methodNamed Bd.named Bd.method).1, Bd.returns, Bd.notSynchronized⟩ hh hPv S0 s₁ [] X0 (Fr.nil _) e0
  exact ⟨s₂, _, castTop (hE m) S, r1, r2, v, L, rfl, r3, r4⟩
theorem finW_of {T : State} {locs : List Loc} {rm : Room} {nf : Nat} {Q : Option Value → Vm → Heap → Prop} {v : Option Value} {st' : List Value} (C : Cx p (s0.setVm vm0) m meth c Z own nm code ml ret) (Sw : Sn s0 vm0 h) (X : Stand p l e R (s0.setVm vm0) m args below meth c T locs k n) (N : Fr n0 locs) (eT : T.heap = h) (hv : ret = none → v = none) (hn : nf ≤ n0) (hk : k ≤ rm.cells) (hl : n ≤ rm.slots) (hQ : ∀ vm1, (s0.setVm vm0).WarmedH vm1 → Q v vm1 h)
    (H : ∀ fs, (∀ (f : JFrame) (acts : List Action), f.method = m → f.locked = none → f.entered = [] → (doReturn e (T.setTop f) acts v).1 = T.setFrames fs) → Steps p.tables e below (T.setTop (mkF m pc Ls st')) (T.setFrames fs)) :
    ∃ s₂ v, Steps p.tables e below (T.setTop (mkF m pc Ls st')) s₂ ∧ FinW s0 below rm nf Q s₂ v := by
  obtain ⟨k0, hS, hk0⟩ := Sw
  obtain ⟨fs, hr, hrun, hended, h1, h2, h3, hsame⟩ := X.leaveW (v := v) hS (by rw [eT]; exact hk0) (fun hh => hv (C.2.2.2.2.2.2.1.symm.trans hh)) C.2.2.2.2.2.2.2
  exact ⟨_, v, H fs hr, hrun, hended, locs, ⟨by rw [show (T.setFrames fs).heap = h from eT]; exact hQ _ X.warmed, fun y hy => Nat.le_trans hn (N y hy)⟩, h1, h2, h3, hsame.mono hk hl⟩
theorem g_returnW {rm : Room} {nf : Nat} {Q : Option Value → Vm → Heap → Prop} (C : Cx p (s0.setVm vm0) m meth c Z own nm code ml none) (Sw : Sn s0 vm0 h) (d : decode code pc = .ok (.return_, 1)) (hn : nf ≤ n0) (hk : k ≤ rm.cells) (hl : n ≤ rm.slots) (hQ : ∀ vm1, (s0.setVm vm0).WarmedH vm1 → Q none vm1 h) : Go p l e R (s0.setVm vm0) m args below meth c (FinW s0 below rm nf Q) n0 h k n pc Ls [] :=
  fun T locs X N eT => finW_of C Sw X N eT (fun _ => rfl) hn hk hl hQ fun fs hr => X.returnOut C.1 C.2.2.2.2.2.2.1 (hb C.2.1 d) hr
theorem g_ireturnW {rm : Room} {nf : Nat} {Q : Option Value → Vm → Heap → Prop} {x : Int32} (C : Cx p (s0.setVm vm0) m meth c Z own nm code ml (some .int)) (Sw : Sn s0 vm0 h) (d : decode code pc = .ok (.ireturn, 1)) (hn : nf ≤ n0) (hk : k ≤ rm.cells) (hl : n ≤ rm.slots) (hQ : ∀ vm1, (s0.setVm vm0).WarmedH vm1 → Q (some (.int x)) vm1 h) : Go p l e R (s0.setVm vm0) m args below meth c (FinW s0 below rm nf Q) n0 h k n pc Ls (.int x :: st) :=
  fun T locs X N eT => finW_of C Sw X N eT (fun hh => nomatch hh) hn hk hl hQ fun fs hr => retI X C.1 C.2.2.2.2.2.2.1 (hb C.2.1 d) hr
theorem g_nreturnW {rm : Room} {nf : Nat} {Q : Option Value → Vm → Heap → Prop} {x z : Int32} {t : FieldType} (C : Cx p (s0.setVm vm0) m meth c Z own nm code ml (some t)) (Sw : Sn s0 vm0 h) (d : decode code pc = .ok (.ireturn, 1)) (ht : t = .boolean ∨ t = .byte ∨ t = .char ∨ t = .short) (hz : nar t x = z) (hn : nf ≤ n0) (hk : k ≤ rm.cells) (hl : n ≤ rm.slots) (hQ : ∀ vm1, (s0.setVm vm0).WarmedH vm1 → Q (some (.int z)) vm1 h) : Go p l e R (s0.setVm vm0) m args below meth c (FinW s0 below rm nf Q) n0 h k n pc Ls (.int x :: st) :=
  fun T locs X N eT => finW_of (v := some (.int z)) C Sw X N eT (fun hh => nomatch hh) hn hk hl hQ fun fs hr => retN X C.1 C.2.2.2.2.2.2.1 ht (hb C.2.1 d) (by rw [hz]; exact hr)
theorem g_areturnW {rm : Room} {nf : Nat} {Q : Option Value → Vm → Heap → Prop} {x : Value} {t : FieldType} (C : Cx p (s0.setVm vm0) m meth c Z own nm code ml (some t)) (Sw : Sn s0 vm0 h) (d : decode code pc = .ok (.areturn, 1)) (ht : t.isReference = true) (hx : x.isRef = true) (hn : nf ≤ n0) (hk : k ≤ rm.cells) (hl : n ≤ rm.slots) (hQ : ∀ vm1, (s0.setVm vm0).WarmedH vm1 → Q (some x) vm1 h) : Go p l e R (s0.setVm vm0) m args below meth c (FinW s0 below rm nf Q) n0 h k n pc Ls (x :: st) :=
  fun T locs X N eT => finW_of C Sw X N eT (fun hh => nomatch hh) hn hk hl hQ fun fs hr => retOut X C.1 C.2.2.2.2.2.2.1 (by rcases ref_cases hx with rfl | ⟨a, rfl⟩ <;> cases t <;> first | rfl | cases ht) (Or.inr (Or.inr (Or.inr (Or.inr ⟨rfl, ht, hx⟩)))) (hb C.2.1 d) hr
theorem g_ldcS (C : Cx p (s0.setVm vm0) m meth c Z own nm code ml ret) {index : Nat} {text : String} {Ts : List String} {vs : List Value} {z : Int32} {nn : Nat} (Sw : Sn s0 vm0 h) (d : decode code pc = .ok (.ldc index, 2)) (w : (Cond.stringLink own index text).before a0 Z = true) (wS : ∀ a ∈ Bundle.stringAtoms, a.before a0 Z = true) (hkeep : ∀ (b : Addr) (cl : Cell), Z.heap[b]? = some cl → s0.heap[b]? = some cl) (hn0 : s0.heap.size ≤ n0) (I : IB Z vm0 Ts) (hnot : text ∉ Ts) (hh : Jvm.Lit.constHeld Z own index) (hcw : Jvm.Lit.compactW.before a0 Z = true)
    (ht : (∀ c ∈ text.toList, c.toNat < 256) ∧ text.toList.map (fun c => Value.int (Jvm.Lit.byteI c.toNat.toUInt16)) = vs) (hz : ¬ z < 0) (hzl : z.toNatClampNeg = vs.length) (hn : 4 * text.toList.length ≤ nn) (hbig : nn ≤ 536870912) (hc : k + 2 ≤ R.cells) (hl : n + (nn + 4) ≤ R.slots) (hq : pc + 2 = q)
    (K : ∀ (a : Addr) (vm1 : Vm) (h' : Heap) (b : Addr) (kb : ClassId), Ext h h' → Cx p (s0.setVm vm1) m meth c Z own nm code ml ret → Sn s0 vm1 h' → IB Z vm1 (text :: Ts) → Lit (s0.setVm vm1) own index a → Exa Z h' a "java/lang/String" → Fld Z h' a "java/lang/String" "coder" "B" (.int 0) → Fld Z h' a "java/lang/String" "value" "[B" (.ref b) → Arv Z h' b kb .byte z vs (.int 0) → Go p l e R (s0.setVm vm1) m args below meth c Ph n0 h' (k + 2) (n + (nn + 4)) q Ls (.ref a :: st)) : Go p l e R (s0.setVm vm0) m args below meth c Ph n0 h k n pc Ls st := fun T locs X N eT => by
  obtain ⟨k0, hS, hk0⟩ := Sw
  obtain ⟨a, T', h', k1, b, kb, X', e', E, hS', hk1, hZ', hown', E1, F1, F2, A1, -, -, I', L', stp⟩ := ldcSVL X C.1 C.2.2.2.2.1 C.2.2.2.1 w wS eT hS hk0 (fun y hy => Nat.le_trans hn0 (N y hy)) hkeep I hnot hh hcw ht hz hzl (g := mkF m pc Ls st) rfl (hb C.2.1 d) hn hbig hc hl
  obtain ⟨s₂, v, S, r⟩ := K a T'.vm h' b kb E ⟨C.1, C.2.1, C.2.2.1, hown', hZ', C.2.2.2.2.2⟩ ⟨k1, hS', hk1⟩ I' L' E1 F1 F2 A1 T' locs X' N e'
  exact ⟨s₂, v, stp _ (by subst hq; exact S), r⟩
theorem g_ldcA (C : Cx p (s0.setVm vm0) m meth c Z own nm code ml ret) {index : Nat} {text : String} {a : Addr} (d : decode code pc = .ok (.ldc index, 2)) (w : (Cond.stringLink own index text).before a0 Z = true) (Lt : Lit (s0.setVm vm0) own index a) (hq : pc + 2 = q) (K : Go p l e R (s0.setVm vm0) m args below meth c Ph n0 h k n q Ls (.ref a :: st)) : Go p l e R (s0.setVm vm0) m args below meth c Ph n0 h k n pc Ls st := fun T locs X N eT => by
  obtain ⟨s₂, v, S, r⟩ := K T locs X N eT
  exact ⟨s₂, v, ldcAgain X C.1 C.2.2.2.2.1 C.2.2.2.1 w Lt (g := mkF m pc Ls st) rfl (hb C.2.1 d) _ (by subst hq; exact S), r⟩
theorem g_ldcN (C : Cx p (s0.setVm vm0) m meth c Z own nm code ml ret) {index : Nat} {text : String} {nn : Nat} (Sw : Sn s0 vm0 h) (d : decode code pc = .ok (.ldc index, 2)) (w : (Cond.stringLink own index text).before a0 Z = true) (wS : ∀ a ∈ Bundle.stringAtoms, a.before a0 Z = true) (hn : 4 * text.toList.length ≤ nn) (hbig : nn ≤ 536870912) (hc : k + 2 ≤ R.cells) (hl : n + (nn + 4) ≤ R.slots) (hq : pc + 2 = q)
    (K : ∀ (a : Addr) (vm1 : Vm) (h' : Heap), Ext h h' → Cx p (s0.setVm vm1) m meth c Z own nm code ml ret → Sn s0 vm1 h' → Go p l e R (s0.setVm vm1) m args below meth c Ph n0 h' (k + 2) (n + (nn + 4)) q Ls (.ref a :: st)) : Go p l e R (s0.setVm vm0) m args below meth c Ph n0 h k n pc Ls st := fun T locs X N eT => by
  obtain ⟨k0, hS, hk0⟩ := Sw
  obtain ⟨a, T', h', k1, X', e', E, hS', hk1, hZ', hown', stp⟩ := ldcS X C.1 C.2.2.2.2.1 C.2.2.2.1 w wS eT hS hk0 (g := mkF m pc Ls st) rfl (hb C.2.1 d) hn hbig hc hl
  obtain ⟨s₂, v, S, r⟩ := K a T'.vm h' E ⟨C.1, C.2.1, C.2.2.1, hown', hZ', C.2.2.2.2.2⟩ ⟨k1, hS', hk1⟩ T' locs X' N e'
  exact ⟨s₂, v, stp _ (by subst hq; exact S), r⟩
theorem backOfW {s : State} {y : MethodName} {bytes : ByteArray} {maxL : Nat} {rt : Option FieldType} {rm : Room} {len W : Nat} {as' : Array Value} {P : Vm → Prop} {Q : Option Value → Vm → Heap → Prop} {nf : Nat}
    (hM : CtrW l Z y bytes maxL rt rm as' h nf P Q) (hZ : Z.Warmed39 s.vm) (wc : (Cond.code y bytes maxL rt).before a0 Z = true) (wz : (Cond.initialized y.cls).before a0 Z = true) (hf : rm.frames + 1 ≤ R.frames) (hl : W + (maxL + 11) + rm.locals ≤ R.locals) :
    BackS l R p e below s args y len W (fun A a => a = as' ∧ A.U.heap = h ∧ P A.U.vm ∧ A.cells + rm.cells ≤ R.cells ∧ A.slots + rm.slots ≤ R.slots)
      (fun A _ v B => ∃ L, (Q v B.U.vm B.U.heap ∧ Fr nf L) ∧ B.locs = A.locs ++ L ∧ B.cells = A.cells + rm.cells ∧ B.slots = A.slots + rm.slots) :=
  BackS.of_freeW (bytes := bytes) (maxL := maxL) (ret := rt) (E := fun _ _ o t L k n => k = rm.cells ∧ n = rm.slots ∧ ∃ v, o = .returned v ∧ (Q v t.vm t.heap ∧ Fr nf L)) hM hf hl
    (fun m meth c A a Y hp => have hU : Z.Warmed39 A.U.vm := wtrans hZ Y.warmed
      ⟨by show (Cond.and _ .tt).before a A.U = true; rw [Cond.before_and, mv hU wc]; rfl, mv hU wc, mv hU wz, hp.2.2.2.1, hp.2.2.2.2⟩)
    (fun m meth c A a g mk Y hp => ⟨hp.1, wtrans hZ Y.warmed, hp.2.1, hp.2.2.1⟩) (fun _ _ _ _ _ _ _ _ _ => trivial)
    (fun _ _ _ _ ⟨v, L, h1, h2, h3⟩ => ⟨L, _, _, h3, rfl, rfl, v, h1, h2⟩)
    (fun m meth c A a g mk v t L k n Y hp _ _ ⟨e1, e2, v', e3, e4⟩ => by cases e3; subst e1 e2; exact ⟨L, e4, rfl, rfl, rfl⟩)
theorem g_callSW (C : Cx p (s0.setVm vm0) m meth c Z own nm code ml ret) {y : MethodName} {bytes : ByteArray} {maxL : Nat} {rt : Option FieldType} {rm : Room} {P : Vm → Prop} {Q : Option Value → Vm → Heap → Prop} {index W : Nat} {argsL : List Value} (Sw : Sn s0 vm0 h) (d : decode code pc = .ok (.invokestatic index, 3)) (w1 : (Cond.methodLink own index y).before a0 Z = true) (w2 : (Cond.static y).before a0 Z = true) (w3 : (Cond.initialized y.cls).before a0 Z = true) (w4 : (Cond.code y bytes maxL rt).before a0 Z = true) (hy : y.cls ≠ "java/lang/invoke/MethodHandle" ∧ y.cls ≠ "java/lang/invoke/VarHandle")
    (M : CtrW l Z y bytes maxL rt rm argsL.toArray h n0 P Q) (hf : rm.frames + 1 ≤ R.frames) (hl : W + (maxL + 11) + rm.locals ≤ R.locals) (hc : k + rm.cells ≤ R.cells) (hs : n + rm.slots ≤ R.slots) (hsz : Ls.size = ml) (hlen : ∀ sig, parseMethodDescriptor y.desc = some sig → argsL.length = sig.parameters.length) (hst : st = argsL.reverse ++ rest) (hW : (rest.map fun v => v.category).sum = W) (hq : pc + 3 = q)
    (hP : ∀ vm1, (s0.setVm vm0).WarmedH vm1 → P vm1) (K : ∀ v vm1 h', Q v vm1 h' → Cx p (s0.setVm vm1) m meth c Z own nm code ml ret → Sn s0 vm1 h' → (s0.setVm vm0).Warmed39 vm1 → ∃ st', st' = v.toList ++ rest ∧ Go p l e R (s0.setVm vm1) m args below meth c Ph n0 h' (k + rm.cells) (n + rm.slots) q Ls st') : Go p l e R (s0.setVm vm0) m args below meth c Ph n0 h k n pc Ls st := fun T locs X N eT => by
  have hZ := C.2.2.2.2.1
  obtain ⟨v, vm1, ⟨T', L', k', n'⟩, -, X', hS1, hle, ⟨L, ⟨hQ, NL⟩, l1, l2, l3⟩, stp⟩ := callSS X C.1 (y := y) C.2.2.2.1 (mvT hZ w1) (mvT hZ w2) (mvT hZ w3) (mvT hZ w4) hy (backOfW (W := W) M hZ w4 w3 hf hl) (g := mkF m pc Ls st) rfl (hsz.trans C.2.2.1.symm) (argsL := argsL) (rest := rest) hlen hst (by show 2 * 0 + _ ≤ _; rw [hW]; omega) (hb C.2.1 d) (fun vm1 hW1 => ⟨rfl, eT, hP vm1 hW1, hc, hs⟩)
  dsimp only [Pt.U, Pt.locs, Pt.cells, Pt.slots] at X' hS1 hle l1 l2 l3 stp
  subst l1 l2 l3
  obtain ⟨k0, hS, hk0⟩ := Sw
  have hZ1 : Z.Warmed39 T'.vm := State.Warmed39.trans (t := s0.setVm vm0) hZ hS1.1
  obtain ⟨st', hst', K'⟩ := K v _ _ hQ ⟨C.1, C.2.1, C.2.2.1, by rw [show (s0.setVm T'.vm).vm = T'.vm from rfl, hS1.1.alike.findClass]; exact C.2.2.2.1, hZ1, C.2.2.2.2.2⟩ ⟨_, foldS (T := T) hS (by rw [eT]; exact hk0) hS1 hle, Nat.le_refl _⟩ hS1.1
  obtain ⟨s₂, v', S, r⟩ := K' _ _ X' (N.app NL) rfl
  exact ⟨s₂, v', stp.trans (by subst hq hst'; exact S), r⟩
theorem g_callIW (C : Cx p (s0.setVm vm0) m meth c Z own nm code ml ret) {y : MethodName} {bytes : ByteArray} {maxL : Nat} {rm : Room} {P : Vm → Prop} {Q : Option Value → Vm → Heap → Prop} {index W : Nat} {argsL : List Value} {a : Addr} (Sw : Sn s0 vm0 h) (d : decode code pc = .ok (.invokespecial index, 3)) (hy1 : y.name = "<init>") (w1 : (Cond.methodLink own index y).before a0 Z = true) (w2 : (Cond.instanceMethod y).before a0 Z = true) (w3 : (Cond.initialized y.cls).before a0 Z = true) (w4 : (Cond.code y bytes maxL none).before a0 Z = true) (hy : y.cls ≠ "java/lang/invoke/MethodHandle" ∧ y.cls ≠ "java/lang/invoke/VarHandle")
    (M : CtrW l Z y bytes maxL none rm (.ref a :: argsL).toArray h n0 P Q) (hf : rm.frames + 1 ≤ R.frames) (hl : W + (maxL + 11) + rm.locals ≤ R.locals) (hc : k + rm.cells ≤ R.cells) (hs : n + rm.slots ≤ R.slots) (hsz : Ls.size = ml) (hlen : ∀ sig, parseMethodDescriptor y.desc = some sig → argsL.length = sig.parameters.length) (hst : st = argsL.reverse ++ .ref a :: rest) (hW : (rest.map fun v => v.category).sum = W) (hq : pc + 3 = q)
    (hP : ∀ vm1, (s0.setVm vm0).WarmedH vm1 → P vm1) (K : ∀ v vm1 h', Q v vm1 h' → Cx p (s0.setVm vm1) m meth c Z own nm code ml ret → Sn s0 vm1 h' → (s0.setVm vm0).Warmed39 vm1 → ∃ st', st' = v.toList ++ rest ∧ Go p l e R (s0.setVm vm1) m args below meth c Ph n0 h' (k + rm.cells) (n + rm.slots) q Ls st') : Go p l e R (s0.setVm vm0) m args below meth c Ph n0 h k n pc Ls st := fun T locs X N eT => by
  have hZ := C.2.2.2.2.1
  obtain ⟨v, vm1, ⟨T', L', k', n'⟩, -, X', hS1, hle, ⟨L, ⟨hQ, NL⟩, l1, l2, l3⟩, stp⟩ := X.specialBackS C.1 (y := y) hy1 C.2.2.2.1 (mvT hZ w1) (mvT hZ w2) (mvT hZ w4) hy (backOfW (W := W) M hZ w4 w3 hf hl) (g := mkF m pc Ls st) rfl (hsz.trans C.2.2.1.symm) (Steps.refl _) (a := a) (argsL := argsL) (rest := rest) hlen hst (by show 2 * 0 + _ ≤ _; rw [hW]; omega) (hb C.2.1 d) (fun vm1 hW1 => ⟨rfl, eT, hP vm1 hW1, hc, hs⟩)
  dsimp only [Pt.U, Pt.locs, Pt.cells, Pt.slots] at X' hS1 hle l1 l2 l3 stp
  subst l1 l2 l3
  obtain ⟨k0, hS, hk0⟩ := Sw
  have hZ1 : Z.Warmed39 T'.vm := State.Warmed39.trans (t := s0.setVm vm0) hZ hS1.1
  obtain ⟨st', hst', K'⟩ := K v _ _ hQ ⟨C.1, C.2.1, C.2.2.1, by rw [show (s0.setVm T'.vm).vm = T'.vm from rfl, hS1.1.alike.findClass]; exact C.2.2.2.1, hZ1, C.2.2.2.2.2⟩ ⟨_, foldS (T := T) hS (by rw [eT]; exact hk0) hS1 hle, Nat.le_refl _⟩ hS1.1
  obtain ⟨s₂, v', S, r⟩ := K' _ _ X' (N.app NL) rfl
  exact ⟨s₂, v', stp.trans (by subst hq hst'; exact S), r⟩
theorem g_callVW (C : Cx p (s0.setVm vm0) m meth c Z own nm code ml ret) {y : MethodName} {bytes : ByteArray} {maxL : Nat} {rt : Option FieldType} {rm : Room} {P : Vm → Prop} {Q : Option Value → Vm → Heap → Prop} {index W : Nat} {argsL : List Value} {y0 : MethodName} {Cl : String} {a : Addr} (Sw : Sn s0 vm0 h) (d : decode code pc = .ok (.invokevirtual index, 3)) (w1 : (Cond.methodLink own index y0).before a0 Z = true) (w2 : (Cond.declares y0).before a0 Z = true) (w5 : (Cond.selects Cl y0 y).before a0 Z = true) (w6 : (Cond.instanceMethod y).before a0 Z = true) (w3 : (Cond.initialized y.cls).before a0 Z = true) (w4 : (Cond.code y bytes maxL rt).before a0 Z = true) (hy : y0.cls ≠ "java/lang/invoke/MethodHandle" ∧ y0.cls ≠ "java/lang/invoke/VarHandle") (hnf : NotFace (s0.setVm vm0) y0)
    (E : Exa Z h a Cl) (M : CtrW l Z y bytes maxL rt rm (.ref a :: argsL).toArray h n0 P Q) (hf : rm.frames + 1 ≤ R.frames) (hl : W + (maxL + 11) + rm.locals ≤ R.locals) (hc : k + rm.cells ≤ R.cells) (hs : n + rm.slots ≤ R.slots) (hsz : Ls.size = ml) (hlen : ∀ sig, parseMethodDescriptor y0.desc = some sig → argsL.length = sig.parameters.length) (hst : st = argsL.reverse ++ .ref a :: rest) (hW : (rest.map fun v => v.category).sum = W) (hq : pc + 3 = q)
    (hP : ∀ vm1, (s0.setVm vm0).WarmedH vm1 → P vm1) (K : ∀ v vm1 h', Q v vm1 h' → Cx p (s0.setVm vm1) m meth c Z own nm code ml ret → Sn s0 vm1 h' → (s0.setVm vm0).Warmed39 vm1 → ∃ st', st' = v.toList ++ rest ∧ Go p l e R (s0.setVm vm1) m args below meth c Ph n0 h' (k + rm.cells) (n + rm.slots) q Ls st') : Go p l e R (s0.setVm vm0) m args below meth c Ph n0 h k n pc Ls st := fun T locs X N eT => by
  have hZ := C.2.2.2.2.1
  obtain ⟨cq, kq, qa, qb, qc⟩ := isOf hZ eT E
  obtain ⟨v, vm1, ⟨T', L', k', n'⟩, -, X', hS1, hle, ⟨L, ⟨hQ, NL⟩, l1, l2, l3⟩, stp⟩ := X.virtualBackS C.1 (y := y0) (z := y) C.2.2.2.1 (mvT hZ w1) (mvT hZ w2) hnf (mvT hZ w5) (mvT hZ w6) hy (backOfW (W := W) M hZ w4 w3 hf hl) qa qc (g := mkF m pc Ls st) rfl (hsz.trans C.2.2.1.symm) (Steps.refl _) (argsL := argsL) (rest := rest) hlen hst (by show 2 * 0 + _ ≤ _; rw [hW]; omega) (hb C.2.1 d) (fun vm1 hW1 => ⟨rfl, eT, hP vm1 hW1, hc, hs⟩)
  dsimp only [Pt.U, Pt.locs, Pt.cells, Pt.slots] at X' hS1 hle l1 l2 l3 stp
  subst l1 l2 l3
  obtain ⟨k0, hS, hk0⟩ := Sw
  have hZ1 : Z.Warmed39 T'.vm := State.Warmed39.trans (t := s0.setVm vm0) hZ hS1.1
  obtain ⟨st', hst', K'⟩ := K v _ _ hQ ⟨C.1, C.2.1, C.2.2.1, by rw [show (s0.setVm T'.vm).vm = T'.vm from rfl, hS1.1.alike.findClass]; exact C.2.2.2.1, hZ1, C.2.2.2.2.2⟩ ⟨_, foldS (T := T) hS (by rw [eT]; exact hk0) hS1 hle, Nat.le_refl _⟩ hS1.1
  obtain ⟨s₂, v', S, r⟩ := K' _ _ X' (N.app NL) rfl
  exact ⟨s₂, v', stp.trans (by subst hq hst'; exact S), r⟩
end GoWide
end Jvm.Pilot.@@N@@

namespace Jvm.Pilot.@@N@@
open Jvm Jvm.ClassFile Sem Op Lib Jvm.Free Jvm.Stand Jvm.LawKit Jvm.RoadKit Bundle Jvm.Pilot.@@N@@.Jvm.D
theorem wd0 {Z : State} {a0 : Array Value} (hw : ∀ d ∈ tables_1, d.before a0 Z = true) : (Jvm.Cond.methodLink "com/example/recordweave/recordweave/store/NhsNumberIsValidPinLaw" (9 : Nat) ({ cls := "com/example/recordweave/recordweave/store/NhsNumberIsValidPinLaw", name := "pick", desc := "(JIJI)C" } : Jvm.MethodName)).before a0 Z = true := hw _ (List.mem_of_getElem? (i := 0) rfl)
theorem wd1 {Z : State} {a0 : Array Value} (hw : ∀ d ∈ tables_1, d.before a0 Z = true) : (Jvm.Cond.static ({ cls := "com/example/recordweave/recordweave/store/NhsNumberIsValidPinLaw", name := "pick", desc := "(JIJI)C" } : Jvm.MethodName)).before a0 Z = true := hw _ (List.mem_of_getElem? (i := 1) rfl)
theorem wd2 {Z : State} {a0 : Array Value} (hw : ∀ d ∈ tables_1, d.before a0 Z = true) : (Jvm.Cond.initialized "com/example/recordweave/recordweave/store/NhsNumberIsValidPinLaw").before a0 Z = true := hw _ (List.mem_of_getElem? (i := 2) rfl)
theorem wd3 {Z : State} {a0 : Array Value} (hw : ∀ d ∈ tables_1, d.before a0 Z = true) : (Jvm.Cond.code ({ cls := "com/example/recordweave/recordweave/store/NhsNumberIsValidPinLaw", name := "pick", desc := "(JIJI)C" } : Jvm.MethodName) method_2_code (7 : Nat) (Option.some Jvm.ClassFile.FieldType.char)).before a0 Z = true := hw _ (List.mem_of_getElem? (i := 3) rfl)
theorem wd4 {Z : State} {a0 : Array Value} (hw : ∀ d ∈ tables_1, d.before a0 Z = true) : (Jvm.Cond.constantLong "com/example/recordweave/recordweave/store/NhsNumberIsValidPinLaw" (7 : Nat) (255 : Int64)).before a0 Z = true := hw _ (List.mem_of_getElem? (i := 4) rfl)
theorem wd5 {Z : State} {a0 : Array Value} (hw : ∀ d ∈ tables_1, d.before a0 Z = true) : (Jvm.Cond.methodLink "com/example/recordweave/recordweave/store/NhsNumberIsValidPinLaw" (24 : Nat) ({ cls := "com/example/recordweave/recordweave/store/NhsNumber", name := "isValid", desc := "(Ljava/lang/String;)Z" } : Jvm.MethodName)).before a0 Z = true := hw _ (List.mem_of_getElem? (i := 5) rfl)
theorem wd6 {Z : State} {a0 : Array Value} (hw : ∀ d ∈ tables_1, d.before a0 Z = true) : (Jvm.Cond.static ({ cls := "com/example/recordweave/recordweave/store/NhsNumber", name := "isValid", desc := "(Ljava/lang/String;)Z" } : Jvm.MethodName)).before a0 Z = true := hw _ (List.mem_of_getElem? (i := 6) rfl)
theorem wd7 {Z : State} {a0 : Array Value} (hw : ∀ d ∈ tables_1, d.before a0 Z = true) : (Jvm.Cond.initialized "com/example/recordweave/recordweave/store/NhsNumber").before a0 Z = true := hw _ (List.mem_of_getElem? (i := 7) rfl)
theorem wd8 {Z : State} {a0 : Array Value} (hw : ∀ d ∈ tables_1, d.before a0 Z = true) : (Jvm.Cond.code ({ cls := "com/example/recordweave/recordweave/store/NhsNumber", name := "isValid", desc := "(Ljava/lang/String;)Z" } : Jvm.MethodName) prog_2_method_2_code (4 : Nat) (Option.some Jvm.ClassFile.FieldType.boolean)).before a0 Z = true := hw _ (List.mem_of_getElem? (i := 8) rfl)
theorem wd9 {Z : State} {a0 : Array Value} (hw : ∀ d ∈ tables_1, d.before a0 Z = true) : (Jvm.Cond.classLink "com/example/recordweave/recordweave/store/NhsNumberIsValidPinLaw" (15 : Nat) "java/lang/String").before a0 Z = true := hw _ (List.mem_of_getElem? (i := 9) rfl)
theorem wd10 {Z : State} {a0 : Array Value} (hw : ∀ d ∈ tables_1, d.before a0 Z = true) : (Jvm.Cond.instantiable "java/lang/String" (4 : Nat)).before a0 Z = true := hw _ (List.mem_of_getElem? (i := 10) rfl)
theorem wd11 {Z : State} {a0 : Array Value} (hw : ∀ d ∈ tables_1, d.before a0 Z = true) : (Jvm.Cond.initialized "java/lang/String").before a0 Z = true := hw _ (List.mem_of_getElem? (i := 11) rfl)
theorem wd12 {Z : State} {a0 : Array Value} (hw : ∀ d ∈ tables_1, d.before a0 Z = true) : (Jvm.Cond.arrayClass Jvm.ClassFile.FieldType.char).before a0 Z = true := hw _ (List.mem_of_getElem? (i := 12) rfl)
theorem wd13 {Z : State} {a0 : Array Value} (hw : ∀ d ∈ tables_1, d.before a0 Z = true) : (Jvm.Cond.methodLink "com/example/recordweave/recordweave/store/NhsNumberIsValidPinLaw" (17 : Nat) ({ cls := "java/lang/String", name := "<init>", desc := "([C)V" } : Jvm.MethodName)).before a0 Z = true := hw _ (List.mem_of_getElem? (i := 13) rfl)
theorem wd14 {Z : State} {a0 : Array Value} (hw : ∀ d ∈ tables_1, d.before a0 Z = true) : (Jvm.Cond.instanceMethod ({ cls := "java/lang/String", name := "<init>", desc := "([C)V" } : Jvm.MethodName)).before a0 Z = true := hw _ (List.mem_of_getElem? (i := 14) rfl)
theorem wd15 {Z : State} {a0 : Array Value} (hw : ∀ d ∈ tables_1, d.before a0 Z = true) : (Jvm.Cond.code ({ cls := "java/lang/String", name := "<init>", desc := "([C)V" } : Jvm.MethodName) jdk_42_method_3_code (2 : Nat) (Option.none : Option Jvm.ClassFile.FieldType)).before a0 Z = true := hw _ (List.mem_of_getElem? (i := 15) rfl)
theorem wd16 {Z : State} {a0 : Array Value} (hw : ∀ d ∈ tables_1, d.before a0 Z = true) : (Jvm.Cond.methodLink "java/lang/String" (27 : Nat) ({ cls := "java/lang/String", name := "<init>", desc := "([CIILjava/lang/Void;)V" } : Jvm.MethodName)).before a0 Z = true := hw _ (List.mem_of_getElem? (i := 16) rfl)
theorem wd17 {Z : State} {a0 : Array Value} (hw : ∀ d ∈ tables_1, d.before a0 Z = true) : (Jvm.Cond.instanceMethod ({ cls := "java/lang/String", name := "<init>", desc := "([CIILjava/lang/Void;)V" } : Jvm.MethodName)).before a0 Z = true := hw _ (List.mem_of_getElem? (i := 17) rfl)
theorem wd19 {Z : State} {a0 : Array Value} (hw : ∀ d ∈ tables_1, d.before a0 Z = true) : (Jvm.Cond.code ({ cls := "java/lang/String", name := "<init>", desc := "([CIILjava/lang/Void;)V" } : Jvm.MethodName) jdk_42_method_149_code (6 : Nat) (Option.none : Option Jvm.ClassFile.FieldType)).before a0 Z = true := hw _ (List.mem_of_getElem? (i := 19) rfl)
theorem wd20 {Z : State} {a0 : Array Value} (hw : ∀ d ∈ tables_1, d.before a0 Z = true) : (Jvm.Cond.methodLink "java/lang/String" (1 : Nat) ({ cls := "java/lang/Object", name := "<init>", desc := "()V" } : Jvm.MethodName)).before a0 Z = true := hw _ (List.mem_of_getElem? (i := 20) rfl)
theorem wd21 {Z : State} {a0 : Array Value} (hw : ∀ d ∈ tables_1, d.before a0 Z = true) : (Jvm.Cond.instanceMethod ({ cls := "java/lang/Object", name := "<init>", desc := "()V" } : Jvm.MethodName)).before a0 Z = true := hw _ (List.mem_of_getElem? (i := 21) rfl)
theorem wd22 {Z : State} {a0 : Array Value} (hw : ∀ d ∈ tables_1, d.before a0 Z = true) : (Jvm.Cond.code ({ cls := "java/lang/Object", name := "<init>", desc := "()V" } : Jvm.MethodName) object_method_1_code (1 : Nat) (Option.none : Option Jvm.ClassFile.FieldType)).before a0 Z = true := hw _ (List.mem_of_getElem? (i := 22) rfl)
theorem wd23 {Z : State} {a0 : Array Value} (hw : ∀ d ∈ tables_1, d.before a0 Z = true) : (Jvm.Cond.fieldLink "java/lang/String" (38 : Nat) "java/lang/String" "COMPACT_STRINGS" "Z").before a0 Z = true := hw _ (List.mem_of_getElem? (i := 23) rfl)
theorem wd35 {Z : State} {a0 : Array Value} (hw : ∀ d ∈ tables_1, d.before a0 Z = true) : (Jvm.Cond.fieldLink "java/lang/String" (15 : Nat) "java/lang/String" "coder" "B").before a0 Z = true := hw _ (List.mem_of_getElem? (i := 35) rfl)
theorem wd36 {Z : State} {a0 : Array Value} (hw : ∀ d ∈ tables_1, d.before a0 Z = true) : (Jvm.Cond.laysFinal "java/lang/String" "java/lang/String" "coder" "B").before a0 Z = true := hw _ (List.mem_of_getElem? (i := 36) rfl)
theorem wd37 {Z : State} {a0 : Array Value} (hw : ∀ d ∈ tables_1, d.before a0 Z = true) : (Jvm.Cond.fieldLink "java/lang/String" (9 : Nat) "java/lang/String" "value" "[B").before a0 Z = true := hw _ (List.mem_of_getElem? (i := 37) rfl)
theorem wd38 {Z : State} {a0 : Array Value} (hw : ∀ d ∈ tables_1, d.before a0 Z = true) : (Jvm.Cond.laysFinal "java/lang/String" "java/lang/String" "value" "[B").before a0 Z = true := hw _ (List.mem_of_getElem? (i := 38) rfl)
theorem wd39 {Z : State} {a0 : Array Value} (hw : ∀ d ∈ tables_1, d.before a0 Z = true) : (Jvm.Cond.methodLink "com/example/recordweave/recordweave/store/NhsNumberIsValidPinLaw" (20 : Nat) ({ cls := "com/example/recordweave/recordweave/store/NhsNumberIsValidPinLaw", name := "dig", desc := "(C)Z" } : Jvm.MethodName)).before a0 Z = true := hw _ (List.mem_of_getElem? (i := 39) rfl)
theorem wd40 {Z : State} {a0 : Array Value} (hw : ∀ d ∈ tables_1, d.before a0 Z = true) : (Jvm.Cond.static ({ cls := "com/example/recordweave/recordweave/store/NhsNumberIsValidPinLaw", name := "dig", desc := "(C)Z" } : Jvm.MethodName)).before a0 Z = true := hw _ (List.mem_of_getElem? (i := 40) rfl)
theorem wd41 {Z : State} {a0 : Array Value} (hw : ∀ d ∈ tables_1, d.before a0 Z = true) : (Jvm.Cond.code ({ cls := "com/example/recordweave/recordweave/store/NhsNumberIsValidPinLaw", name := "dig", desc := "(C)Z" } : Jvm.MethodName) method_3_code (1 : Nat) (Option.some Jvm.ClassFile.FieldType.boolean)).before a0 Z = true := hw _ (List.mem_of_getElem? (i := 41) rfl)
theorem wd42 {Z : State} {a0 : Array Value} (hw : ∀ d ∈ tables_1, d.before a0 Z = true) : (Jvm.Cond.methodLink "com/example/recordweave/recordweave/store/NhsNumber" (7 : Nat) ({ cls := "java/lang/String", name := "length", desc := "()I" } : Jvm.MethodName)).before a0 Z = true := hw _ (List.mem_of_getElem? (i := 42) rfl)
theorem wd43 {Z : State} {a0 : Array Value} (hw : ∀ d ∈ tables_1, d.before a0 Z = true) : (Jvm.Cond.declares ({ cls := "java/lang/String", name := "length", desc := "()I" } : Jvm.MethodName)).before a0 Z = true := hw _ (List.mem_of_getElem? (i := 43) rfl)
theorem wd44 {Z : State} {a0 : Array Value} (hw : ∀ d ∈ tables_1, d.before a0 Z = true) : (Jvm.Cond.instanceMethod ({ cls := "java/lang/String", name := "length", desc := "()I" } : Jvm.MethodName)).before a0 Z = true := hw _ (List.mem_of_getElem? (i := 44) rfl)
theorem wd45 {Z : State} {a0 : Array Value} (hw : ∀ d ∈ tables_1, d.before a0 Z = true) : (Jvm.Cond.selects "java/lang/String" ({ cls := "java/lang/String", name := "length", desc := "()I" } : Jvm.MethodName) ({ cls := "java/lang/String", name := "length", desc := "()I" } : Jvm.MethodName)).before a0 Z = true := hw _ (List.mem_of_getElem? (i := 45) rfl)
theorem wd46 {Z : State} {a0 : Array Value} (hw : ∀ d ∈ tables_1, d.before a0 Z = true) : (Jvm.Cond.code ({ cls := "java/lang/String", name := "length", desc := "()I" } : Jvm.MethodName) jdk_42_method_54_code (1 : Nat) (Option.some Jvm.ClassFile.FieldType.int)).before a0 Z = true := hw _ (List.mem_of_getElem? (i := 46) rfl)
theorem wd47 {Z : State} {a0 : Array Value} (hw : ∀ d ∈ tables_1, d.before a0 Z = true) : (Jvm.Cond.methodLink "java/lang/String" (335 : Nat) ({ cls := "java/lang/String", name := "coder", desc := "()B" } : Jvm.MethodName)).before a0 Z = true := hw _ (List.mem_of_getElem? (i := 47) rfl)
theorem wd48 {Z : State} {a0 : Array Value} (hw : ∀ d ∈ tables_1, d.before a0 Z = true) : (Jvm.Cond.declares ({ cls := "java/lang/String", name := "coder", desc := "()B" } : Jvm.MethodName)).before a0 Z = true := hw _ (List.mem_of_getElem? (i := 48) rfl)
theorem wd49 {Z : State} {a0 : Array Value} (hw : ∀ d ∈ tables_1, d.before a0 Z = true) : (Jvm.Cond.instanceMethod ({ cls := "java/lang/String", name := "coder", desc := "()B" } : Jvm.MethodName)).before a0 Z = true := hw _ (List.mem_of_getElem? (i := 49) rfl)
theorem wd50 {Z : State} {a0 : Array Value} (hw : ∀ d ∈ tables_1, d.before a0 Z = true) : (Jvm.Cond.selects "java/lang/String" ({ cls := "java/lang/String", name := "coder", desc := "()B" } : Jvm.MethodName) ({ cls := "java/lang/String", name := "coder", desc := "()B" } : Jvm.MethodName)).before a0 Z = true := hw _ (List.mem_of_getElem? (i := 50) rfl)
theorem wd51 {Z : State} {a0 : Array Value} (hw : ∀ d ∈ tables_1, d.before a0 Z = true) : (Jvm.Cond.code ({ cls := "java/lang/String", name := "coder", desc := "()B" } : Jvm.MethodName) jdk_42_method_152_code (1 : Nat) (Option.some Jvm.ClassFile.FieldType.byte)).before a0 Z = true := hw _ (List.mem_of_getElem? (i := 51) rfl)
theorem wd52 {Z : State} {a0 : Array Value} (hw : ∀ d ∈ tables_1, d.before a0 Z = true) : (Jvm.Cond.methodLink "com/example/recordweave/recordweave/store/NhsNumber" (15 : Nat) ({ cls := "java/lang/String", name := "charAt", desc := "(I)C" } : Jvm.MethodName)).before a0 Z = true := hw _ (List.mem_of_getElem? (i := 52) rfl)
theorem wd53 {Z : State} {a0 : Array Value} (hw : ∀ d ∈ tables_1, d.before a0 Z = true) : (Jvm.Cond.declares ({ cls := "java/lang/String", name := "charAt", desc := "(I)C" } : Jvm.MethodName)).before a0 Z = true := hw _ (List.mem_of_getElem? (i := 53) rfl)
theorem wd54 {Z : State} {a0 : Array Value} (hw : ∀ d ∈ tables_1, d.before a0 Z = true) : (Jvm.Cond.instanceMethod ({ cls := "java/lang/String", name := "charAt", desc := "(I)C" } : Jvm.MethodName)).before a0 Z = true := hw _ (List.mem_of_getElem? (i := 54) rfl)
theorem wd55 {Z : State} {a0 : Array Value} (hw : ∀ d ∈ tables_1, d.before a0 Z = true) : (Jvm.Cond.selects "java/lang/String" ({ cls := "java/lang/String", name := "charAt", desc := "(I)C" } : Jvm.MethodName) ({ cls := "java/lang/String", name := "charAt", desc := "(I)C" } : Jvm.MethodName)).before a0 Z = true := hw _ (List.mem_of_getElem? (i := 55) rfl)
theorem wd56 {Z : State} {a0 : Array Value} (hw : ∀ d ∈ tables_1, d.before a0 Z = true) : (Jvm.Cond.code ({ cls := "java/lang/String", name := "charAt", desc := "(I)C" } : Jvm.MethodName) jdk_42_method_56_code (2 : Nat) (Option.some Jvm.ClassFile.FieldType.char)).before a0 Z = true := hw _ (List.mem_of_getElem? (i := 56) rfl)
theorem wd57 {Z : State} {a0 : Array Value} (hw : ∀ d ∈ tables_1, d.before a0 Z = true) : (Jvm.Cond.methodLink "java/lang/String" (492 : Nat) ({ cls := "java/lang/String", name := "isLatin1", desc := "()Z" } : Jvm.MethodName)).before a0 Z = true := hw _ (List.mem_of_getElem? (i := 57) rfl)
theorem wd58 {Z : State} {a0 : Array Value} (hw : ∀ d ∈ tables_1, d.before a0 Z = true) : (Jvm.Cond.declares ({ cls := "java/lang/String", name := "isLatin1", desc := "()Z" } : Jvm.MethodName)).before a0 Z = true := hw _ (List.mem_of_getElem? (i := 58) rfl)
theorem wd59 {Z : State} {a0 : Array Value} (hw : ∀ d ∈ tables_1, d.before a0 Z = true) : (Jvm.Cond.instanceMethod ({ cls := "java/lang/String", name := "isLatin1", desc := "()Z" } : Jvm.MethodName)).before a0 Z = true := hw _ (List.mem_of_getElem? (i := 59) rfl)
theorem wd60 {Z : State} {a0 : Array Value} (hw : ∀ d ∈ tables_1, d.before a0 Z = true) : (Jvm.Cond.selects "java/lang/String" ({ cls := "java/lang/String", name := "isLatin1", desc := "()Z" } : Jvm.MethodName) ({ cls := "java/lang/String", name := "isLatin1", desc := "()Z" } : Jvm.MethodName)).before a0 Z = true := hw _ (List.mem_of_getElem? (i := 60) rfl)
theorem wd61 {Z : State} {a0 : Array Value} (hw : ∀ d ∈ tables_1, d.before a0 Z = true) : (Jvm.Cond.code ({ cls := "java/lang/String", name := "isLatin1", desc := "()Z" } : Jvm.MethodName) jdk_42_method_154_code (1 : Nat) (Option.some Jvm.ClassFile.FieldType.boolean)).before a0 Z = true := hw _ (List.mem_of_getElem? (i := 61) rfl)
theorem wd62 {Z : State} {a0 : Array Value} (hw : ∀ d ∈ tables_1, d.before a0 Z = true) : (Jvm.Cond.methodLink "java/lang/String" (495 : Nat) ({ cls := "java/lang/StringLatin1", name := "charAt", desc := "([BI)C" } : Jvm.MethodName)).before a0 Z = true := hw _ (List.mem_of_getElem? (i := 62) rfl)
theorem wd63 {Z : State} {a0 : Array Value} (hw : ∀ d ∈ tables_1, d.before a0 Z = true) : (Jvm.Cond.static ({ cls := "java/lang/StringLatin1", name := "charAt", desc := "([BI)C" } : Jvm.MethodName)).before a0 Z = true := hw _ (List.mem_of_getElem? (i := 63) rfl)
theorem wd64 {Z : State} {a0 : Array Value} (hw : ∀ d ∈ tables_1, d.before a0 Z = true) : (Jvm.Cond.initialized "java/lang/StringLatin1").before a0 Z = true := hw _ (List.mem_of_getElem? (i := 64) rfl)
theorem wd65 {Z : State} {a0 : Array Value} (hw : ∀ d ∈ tables_1, d.before a0 Z = true) : (Jvm.Cond.code ({ cls := "java/lang/StringLatin1", name := "charAt", desc := "([BI)C" } : Jvm.MethodName) jdk_43_method_2_code (2 : Nat) (Option.some Jvm.ClassFile.FieldType.char)).before a0 Z = true := hw _ (List.mem_of_getElem? (i := 65) rfl)
theorem wd66 {Z : State} {a0 : Array Value} (hw : ∀ d ∈ tables_1, d.before a0 Z = true) : (Jvm.Cond.methodLink "java/lang/StringLatin1" (9 : Nat) ({ cls := "java/lang/String", name := "checkIndex", desc := "(II)V" } : Jvm.MethodName)).before a0 Z = true := hw _ (List.mem_of_getElem? (i := 66) rfl)
theorem wd67 {Z : State} {a0 : Array Value} (hw : ∀ d ∈ tables_1, d.before a0 Z = true) : (Jvm.Cond.static ({ cls := "java/lang/String", name := "checkIndex", desc := "(II)V" } : Jvm.MethodName)).before a0 Z = true := hw _ (List.mem_of_getElem? (i := 67) rfl)
theorem wd68 {Z : State} {a0 : Array Value} (hw : ∀ d ∈ tables_1, d.before a0 Z = true) : (Jvm.Cond.code ({ cls := "java/lang/String", name := "checkIndex", desc := "(II)V" } : Jvm.MethodName) jdk_42_method_155_code (2 : Nat) (Option.none : Option Jvm.ClassFile.FieldType)).before a0 Z = true := hw _ (List.mem_of_getElem? (i := 68) rfl)
theorem wd69 {Z : State} {a0 : Array Value} (hw : ∀ d ∈ tables_1, d.before a0 Z = true) : (Jvm.Cond.fieldLink "java/lang/String" (1053 : Nat) "jdk/internal/util/Preconditions" "SIOOBE_FORMATTER" "Ljava/util/function/BiFunction;").before a0 Z = true := hw _ (List.mem_of_getElem? (i := 69) rfl)
theorem wd70 {Z : State} {a0 : Array Value} (hw : ∀ d ∈ tables_1, d.before a0 Z = true) : (Jvm.Cond.initialized "jdk/internal/util/Preconditions").before a0 Z = true := hw _ (List.mem_of_getElem? (i := 70) rfl)
theorem wd71 {Z : State} {a0 : Array Value} (hw : ∀ d ∈ tables_1, d.before a0 Z = true) : (Jvm.Cond.methodLink "java/lang/String" (1059 : Nat) ({ cls := "jdk/internal/util/Preconditions", name := "checkIndex", desc := "(IILjava/util/function/BiFunction;)I" } : Jvm.MethodName)).before a0 Z = true := hw _ (List.mem_of_getElem? (i := 71) rfl)
theorem wd72 {Z : State} {a0 : Array Value} (hw : ∀ d ∈ tables_1, d.before a0 Z = true) : (Jvm.Cond.static ({ cls := "jdk/internal/util/Preconditions", name := "checkIndex", desc := "(IILjava/util/function/BiFunction;)I" } : Jvm.MethodName)).before a0 Z = true := hw _ (List.mem_of_getElem? (i := 72) rfl)
theorem wd73 {Z : State} {a0 : Array Value} (hw : ∀ d ∈ tables_1, d.before a0 Z = true) : (Jvm.Cond.code ({ cls := "jdk/internal/util/Preconditions", name := "checkIndex", desc := "(IILjava/util/function/BiFunction;)I" } : Jvm.MethodName) jdk_41_method_11_code (3 : Nat) (Option.some Jvm.ClassFile.FieldType.int)).before a0 Z = true := hw _ (List.mem_of_getElem? (i := 73) rfl)
theorem wd74 {Z : State} {a0 : Array Value} (hw : ∀ d ∈ tables_1, d.before a0 Z = true) : (Jvm.Cond.stringLink "java/lang/String" (7 : Nat) "").before a0 Z = true := hw _ (List.mem_of_getElem? (i := 74) rfl)
theorem d1_0 : decode method_2_code 0 = .ok (.lload_n 0, 1) := by decide +kernel
theorem d1_1 : decode method_2_code 1 = .ok (.iload_n 2, 1) := by decide +kernel
theorem d1_2 : decode method_2_code 2 = .ok (.lushr, 1) := by decide +kernel
theorem d1_3 : decode method_2_code 3 = .ok (.ldc2_w 7, 3) := by decide +kernel
theorem d1_6 : decode method_2_code 6 = .ok (.land, 1) := by decide +kernel
theorem d1_7 : decode method_2_code 7 = .ok (.l2i, 1) := by decide +kernel
theorem d1_8 : decode method_2_code 8 = .ok (.istore 6, 2) := by decide +kernel
theorem d1_10 : decode method_2_code 10 = .ok (.lload_n 3, 1) := by decide +kernel
theorem d1_11 : decode method_2_code 11 = .ok (.iload 5, 2) := by decide +kernel
theorem d1_13 : decode method_2_code 13 = .ok (.lushr, 1) := by decide +kernel
theorem d1_14 : decode method_2_code 14 = .ok (.lconst 1, 1) := by decide +kernel
theorem d1_15 : decode method_2_code 15 = .ok (.land, 1) := by decide +kernel
theorem d1_16 : decode method_2_code 16 = .ok (.lconst 0, 1) := by decide +kernel
theorem d1_17 : decode method_2_code 17 = .ok (.lcmp, 1) := by decide +kernel
theorem d1_18 : decode method_2_code 18 = .ok (.ifCond .eq 13, 3) := by decide +kernel
theorem d1_21 : decode method_2_code 21 = .ok (.bipush 48, 2) := by decide +kernel
theorem d1_23 : decode method_2_code 23 = .ok (.iload 6, 2) := by decide +kernel
theorem d1_25 : decode method_2_code 25 = .ok (.bipush 10, 2) := by decide +kernel
theorem d1_27 : decode method_2_code 27 = .ok (.irem, 1) := by decide +kernel
theorem d1_28 : decode method_2_code 28 = .ok (.iadd, 1) := by decide +kernel
theorem d1_29 : decode method_2_code 29 = .ok (.i2c, 1) := by decide +kernel
theorem d1_30 : decode method_2_code 30 = .ok (.ireturn, 1) := by decide +kernel
theorem d1_31 : decode method_2_code 31 = .ok (.iload 6, 2) := by decide +kernel
theorem d1_33 : decode method_2_code 33 = .ok (.i2c, 1) := by decide +kernel
theorem d1_34 : decode method_2_code 34 = .ok (.ireturn, 1) := by decide +kernel
theorem d2_0 : decode prog_2_method_2_code 0 = .ok (.aload_n 0, 1) := by decide +kernel
theorem d2_1 : decode prog_2_method_2_code 1 = .ok (.ifnull 12, 3) := by decide +kernel
theorem d2_4 : decode prog_2_method_2_code 4 = .ok (.aload_n 0, 1) := by decide +kernel
theorem d2_5 : decode prog_2_method_2_code 5 = .ok (.invokevirtual 7, 3) := by decide +kernel
theorem d2_8 : decode prog_2_method_2_code 8 = .ok (.bipush 10, 2) := by decide +kernel
theorem d2_10 : decode prog_2_method_2_code 10 = .ok (.if_icmp .eq 5, 3) := by decide +kernel
theorem d2_13 : decode prog_2_method_2_code 13 = .ok (.iconst 0, 1) := by decide +kernel
theorem d2_14 : decode prog_2_method_2_code 14 = .ok (.ireturn, 1) := by decide +kernel
theorem d2_15 : decode prog_2_method_2_code 15 = .ok (.iconst 0, 1) := by decide +kernel
theorem d2_16 : decode prog_2_method_2_code 16 = .ok (.istore_n 1, 1) := by decide +kernel
theorem d2_17 : decode prog_2_method_2_code 17 = .ok (.iconst 0, 1) := by decide +kernel
theorem d2_18 : decode prog_2_method_2_code 18 = .ok (.istore_n 2, 1) := by decide +kernel
theorem d2_19 : decode prog_2_method_2_code 19 = .ok (.iload_n 2, 1) := by decide +kernel
theorem d2_20 : decode prog_2_method_2_code 20 = .ok (.bipush 10, 2) := by decide +kernel
theorem d2_22 : decode prog_2_method_2_code 22 = .ok (.if_icmp .ge 47, 3) := by decide +kernel
theorem d2_25 : decode prog_2_method_2_code 25 = .ok (.aload_n 0, 1) := by decide +kernel
theorem d2_26 : decode prog_2_method_2_code 26 = .ok (.iload_n 2, 1) := by decide +kernel
theorem d2_27 : decode prog_2_method_2_code 27 = .ok (.invokevirtual 15, 3) := by decide +kernel
theorem d2_30 : decode prog_2_method_2_code 30 = .ok (.istore_n 3, 1) := by decide +kernel
theorem d2_31 : decode prog_2_method_2_code 31 = .ok (.iload_n 3, 1) := by decide +kernel
theorem d2_32 : decode prog_2_method_2_code 32 = .ok (.bipush 48, 2) := by decide +kernel
theorem d2_34 : decode prog_2_method_2_code 34 = .ok (.if_icmp .lt 9, 3) := by decide +kernel
theorem d2_37 : decode prog_2_method_2_code 37 = .ok (.iload_n 3, 1) := by decide +kernel
theorem d2_38 : decode prog_2_method_2_code 38 = .ok (.bipush 57, 2) := by decide +kernel
theorem d2_40 : decode prog_2_method_2_code 40 = .ok (.if_icmp .le 5, 3) := by decide +kernel
theorem d2_43 : decode prog_2_method_2_code 43 = .ok (.iconst 0, 1) := by decide +kernel
theorem d2_44 : decode prog_2_method_2_code 44 = .ok (.ireturn, 1) := by decide +kernel
theorem d2_45 : decode prog_2_method_2_code 45 = .ok (.iload_n 2, 1) := by decide +kernel
theorem d2_46 : decode prog_2_method_2_code 46 = .ok (.bipush 9, 2) := by decide +kernel
theorem d2_48 : decode prog_2_method_2_code 48 = .ok (.if_icmp .ge 15, 3) := by decide +kernel
theorem d2_51 : decode prog_2_method_2_code 51 = .ok (.iload_n 1, 1) := by decide +kernel
theorem d2_52 : decode prog_2_method_2_code 52 = .ok (.iload_n 3, 1) := by decide +kernel
theorem d2_53 : decode prog_2_method_2_code 53 = .ok (.bipush 48, 2) := by decide +kernel
theorem d2_55 : decode prog_2_method_2_code 55 = .ok (.isub, 1) := by decide +kernel
theorem d2_56 : decode prog_2_method_2_code 56 = .ok (.bipush 10, 2) := by decide +kernel
theorem d2_58 : decode prog_2_method_2_code 58 = .ok (.iload_n 2, 1) := by decide +kernel
theorem d2_59 : decode prog_2_method_2_code 59 = .ok (.isub, 1) := by decide +kernel
theorem d2_60 : decode prog_2_method_2_code 60 = .ok (.imul, 1) := by decide +kernel
theorem d2_61 : decode prog_2_method_2_code 61 = .ok (.iadd, 1) := by decide +kernel
theorem d2_62 : decode prog_2_method_2_code 62 = .ok (.istore_n 1, 1) := by decide +kernel
theorem d2_63 : decode prog_2_method_2_code 63 = .ok (.iinc 2 1, 3) := by decide +kernel
theorem d2_66 : decode prog_2_method_2_code 66 = .ok (.goto (-47), 3) := by decide +kernel
theorem d2_69 : decode prog_2_method_2_code 69 = .ok (.bipush 11, 2) := by decide +kernel
theorem d2_71 : decode prog_2_method_2_code 71 = .ok (.iload_n 1, 1) := by decide +kernel
theorem d2_72 : decode prog_2_method_2_code 72 = .ok (.bipush 11, 2) := by decide +kernel
theorem d2_74 : decode prog_2_method_2_code 74 = .ok (.irem, 1) := by decide +kernel
theorem d2_75 : decode prog_2_method_2_code 75 = .ok (.isub, 1) := by decide +kernel
theorem d2_76 : decode prog_2_method_2_code 76 = .ok (.bipush 11, 2) := by decide +kernel
theorem d2_78 : decode prog_2_method_2_code 78 = .ok (.irem, 1) := by decide +kernel
theorem d2_79 : decode prog_2_method_2_code 79 = .ok (.istore_n 2, 1) := by decide +kernel
theorem d2_80 : decode prog_2_method_2_code 80 = .ok (.iload_n 2, 1) := by decide +kernel
theorem d2_81 : decode prog_2_method_2_code 81 = .ok (.aload_n 0, 1) := by decide +kernel
theorem d2_82 : decode prog_2_method_2_code 82 = .ok (.bipush 9, 2) := by decide +kernel
theorem d2_84 : decode prog_2_method_2_code 84 = .ok (.invokevirtual 15, 3) := by decide +kernel
theorem d2_87 : decode prog_2_method_2_code 87 = .ok (.bipush 48, 2) := by decide +kernel
theorem d2_89 : decode prog_2_method_2_code 89 = .ok (.isub, 1) := by decide +kernel
theorem d2_90 : decode prog_2_method_2_code 90 = .ok (.if_icmp .ne 7, 3) := by decide +kernel
theorem d2_93 : decode prog_2_method_2_code 93 = .ok (.iconst 1, 1) := by decide +kernel
theorem d2_94 : decode prog_2_method_2_code 94 = .ok (.goto 4, 3) := by decide +kernel
theorem d2_97 : decode prog_2_method_2_code 97 = .ok (.iconst 0, 1) := by decide +kernel
theorem d2_98 : decode prog_2_method_2_code 98 = .ok (.ireturn, 1) := by decide +kernel
theorem d3_0 : decode jdk_42_method_3_code 0 = .ok (.aload_n 0, 1) := by decide +kernel
theorem d3_1 : decode jdk_42_method_3_code 1 = .ok (.aload_n 1, 1) := by decide +kernel
theorem d3_2 : decode jdk_42_method_3_code 2 = .ok (.iconst 0, 1) := by decide +kernel
theorem d3_3 : decode jdk_42_method_3_code 3 = .ok (.aload_n 1, 1) := by decide +kernel
theorem d3_4 : decode jdk_42_method_3_code 4 = .ok (.arraylength, 1) := by decide +kernel
theorem d3_5 : decode jdk_42_method_3_code 5 = .ok (.aconst_null, 1) := by decide +kernel
theorem d3_6 : decode jdk_42_method_3_code 6 = .ok (.invokespecial 27, 3) := by decide +kernel
theorem d3_9 : decode jdk_42_method_3_code 9 = .ok (.return_, 1) := by decide +kernel
theorem d4_0 : decode jdk_42_method_149_code 0 = .ok (.aload_n 0, 1) := by decide +kernel
theorem d4_1 : decode jdk_42_method_149_code 1 = .ok (.invokespecial 1, 3) := by decide +kernel
theorem d4_4 : decode jdk_42_method_149_code 4 = .ok (.iload_n 3, 1) := by decide +kernel
theorem d4_5 : decode jdk_42_method_149_code 5 = .ok (.ifCond .ne 22, 3) := by decide +kernel
theorem d4_8 : decode jdk_42_method_149_code 8 = .ok (.aload_n 0, 1) := by decide +kernel
theorem d4_9 : decode jdk_42_method_149_code 9 = .ok (.ldc 7, 2) := by decide +kernel
theorem d4_11 : decode jdk_42_method_149_code 11 = .ok (.getfield 9, 3) := by decide +kernel
theorem d4_14 : decode jdk_42_method_149_code 14 = .ok (.putfield 9, 3) := by decide +kernel
theorem d4_17 : decode jdk_42_method_149_code 17 = .ok (.aload_n 0, 1) := by decide +kernel
theorem d4_18 : decode jdk_42_method_149_code 18 = .ok (.ldc 7, 2) := by decide +kernel
theorem d4_20 : decode jdk_42_method_149_code 20 = .ok (.getfield 15, 3) := by decide +kernel
theorem d4_23 : decode jdk_42_method_149_code 23 = .ok (.putfield 15, 3) := by decide +kernel
theorem d4_26 : decode jdk_42_method_149_code 26 = .ok (.return_, 1) := by decide +kernel
theorem d9_0 : decode method_3_code 0 = .ok (.iload_n 0, 1) := by decide +kernel
theorem d9_1 : decode method_3_code 1 = .ok (.bipush 48, 2) := by decide +kernel
theorem d9_3 : decode method_3_code 3 = .ok (.if_icmp .lt 13, 3) := by decide +kernel
theorem d9_6 : decode method_3_code 6 = .ok (.iload_n 0, 1) := by decide +kernel
theorem d9_7 : decode method_3_code 7 = .ok (.bipush 57, 2) := by decide +kernel
theorem d9_9 : decode method_3_code 9 = .ok (.if_icmp .gt 7, 3) := by decide +kernel
theorem d9_12 : decode method_3_code 12 = .ok (.iconst 1, 1) := by decide +kernel
theorem d9_13 : decode method_3_code 13 = .ok (.goto 4, 3) := by decide +kernel
theorem d9_16 : decode method_3_code 16 = .ok (.iconst 0, 1) := by decide +kernel
theorem d9_17 : decode method_3_code 17 = .ok (.ireturn, 1) := by decide +kernel
theorem d10_0 : decode jdk_42_method_54_code 0 = .ok (.aload_n 0, 1) := by decide +kernel
theorem d10_1 : decode jdk_42_method_54_code 1 = .ok (.getfield 9, 3) := by decide +kernel
theorem d10_4 : decode jdk_42_method_54_code 4 = .ok (.arraylength, 1) := by decide +kernel
theorem d10_5 : decode jdk_42_method_54_code 5 = .ok (.aload_n 0, 1) := by decide +kernel
theorem d10_6 : decode jdk_42_method_54_code 6 = .ok (.invokevirtual 335, 3) := by decide +kernel
theorem d10_9 : decode jdk_42_method_54_code 9 = .ok (.ishr, 1) := by decide +kernel
theorem d10_10 : decode jdk_42_method_54_code 10 = .ok (.ireturn, 1) := by decide +kernel
theorem d11_0 : decode jdk_42_method_152_code 0 = .ok (.getstatic 38, 3) := by decide +kernel
theorem d11_3 : decode jdk_42_method_152_code 3 = .ok (.ifCond .eq 10, 3) := by decide +kernel
theorem d11_6 : decode jdk_42_method_152_code 6 = .ok (.aload_n 0, 1) := by decide +kernel
theorem d11_7 : decode jdk_42_method_152_code 7 = .ok (.getfield 15, 3) := by decide +kernel
theorem d11_10 : decode jdk_42_method_152_code 10 = .ok (.goto 4, 3) := by decide +kernel
theorem d11_14 : decode jdk_42_method_152_code 14 = .ok (.ireturn, 1) := by decide +kernel
theorem d12_0 : decode jdk_42_method_56_code 0 = .ok (.aload_n 0, 1) := by decide +kernel
theorem d12_1 : decode jdk_42_method_56_code 1 = .ok (.invokevirtual 492, 3) := by decide +kernel
theorem d12_4 : decode jdk_42_method_56_code 4 = .ok (.ifCond .eq 12, 3) := by decide +kernel
theorem d12_7 : decode jdk_42_method_56_code 7 = .ok (.aload_n 0, 1) := by decide +kernel
theorem d12_8 : decode jdk_42_method_56_code 8 = .ok (.getfield 9, 3) := by decide +kernel
theorem d12_11 : decode jdk_42_method_56_code 11 = .ok (.iload_n 1, 1) := by decide +kernel
theorem d12_12 : decode jdk_42_method_56_code 12 = .ok (.invokestatic 495, 3) := by decide +kernel
theorem d12_15 : decode jdk_42_method_56_code 15 = .ok (.ireturn, 1) := by decide +kernel
theorem d13_0 : decode jdk_42_method_154_code 0 = .ok (.getstatic 38, 3) := by decide +kernel
theorem d13_3 : decode jdk_42_method_154_code 3 = .ok (.ifCond .eq 14, 3) := by decide +kernel
theorem d13_6 : decode jdk_42_method_154_code 6 = .ok (.aload_n 0, 1) := by decide +kernel
theorem d13_7 : decode jdk_42_method_154_code 7 = .ok (.getfield 15, 3) := by decide +kernel
theorem d13_10 : decode jdk_42_method_154_code 10 = .ok (.ifCond .ne 7, 3) := by decide +kernel
theorem d13_13 : decode jdk_42_method_154_code 13 = .ok (.iconst 1, 1) := by decide +kernel
theorem d13_14 : decode jdk_42_method_154_code 14 = .ok (.goto 4, 3) := by decide +kernel
theorem d13_18 : decode jdk_42_method_154_code 18 = .ok (.ireturn, 1) := by decide +kernel
theorem d14_0 : decode jdk_43_method_2_code 0 = .ok (.iload_n 1, 1) := by decide +kernel
theorem d14_1 : decode jdk_43_method_2_code 1 = .ok (.aload_n 0, 1) := by decide +kernel
theorem d14_2 : decode jdk_43_method_2_code 2 = .ok (.arraylength, 1) := by decide +kernel
theorem d14_3 : decode jdk_43_method_2_code 3 = .ok (.invokestatic 9, 3) := by decide +kernel
theorem d14_6 : decode jdk_43_method_2_code 6 = .ok (.aload_n 0, 1) := by decide +kernel
theorem d14_7 : decode jdk_43_method_2_code 7 = .ok (.iload_n 1, 1) := by decide +kernel
theorem d14_8 : decode jdk_43_method_2_code 8 = .ok (.baload, 1) := by decide +kernel
theorem d14_9 : decode jdk_43_method_2_code 9 = .ok (.sipush 255, 3) := by decide +kernel
theorem d14_12 : decode jdk_43_method_2_code 12 = .ok (.iand, 1) := by decide +kernel
theorem d14_13 : decode jdk_43_method_2_code 13 = .ok (.i2c, 1) := by decide +kernel
theorem d14_14 : decode jdk_43_method_2_code 14 = .ok (.ireturn, 1) := by decide +kernel
theorem d15_0 : decode jdk_42_method_155_code 0 = .ok (.iload_n 0, 1) := by decide +kernel
theorem d15_1 : decode jdk_42_method_155_code 1 = .ok (.iload_n 1, 1) := by decide +kernel
theorem d15_2 : decode jdk_42_method_155_code 2 = .ok (.getstatic 1053, 3) := by decide +kernel
theorem d15_5 : decode jdk_42_method_155_code 5 = .ok (.invokestatic 1059, 3) := by decide +kernel
theorem d15_8 : decode jdk_42_method_155_code 8 = .ok (.pop, 1) := by decide +kernel
theorem d15_9 : decode jdk_42_method_155_code 9 = .ok (.return_, 1) := by decide +kernel
theorem d16_0 : decode jdk_41_method_11_code 0 = .ok (.iload_n 0, 1) := by decide +kernel
theorem d16_1 : decode jdk_41_method_11_code 1 = .ok (.ifCond .lt 8, 3) := by decide +kernel
theorem d16_4 : decode jdk_41_method_11_code 4 = .ok (.iload_n 0, 1) := by decide +kernel
theorem d16_5 : decode jdk_41_method_11_code 5 = .ok (.iload_n 1, 1) := by decide +kernel
theorem d16_6 : decode jdk_41_method_11_code 6 = .ok (.if_icmp .lt 10, 3) := by decide +kernel
theorem d16_16 : decode jdk_41_method_11_code 16 = .ok (.iload_n 0, 1) := by decide +kernel
theorem d16_17 : decode jdk_41_method_11_code 17 = .ok (.ireturn, 1) := by decide +kernel
theorem pd0 : parseMethodDescriptor "()B" = some ⟨[], some .byte⟩ := by decide +kernel
theorem pd1 : parseMethodDescriptor "(IILjava/util/function/BiFunction;)I" = some ⟨[.int, .int, (.object "java/util/function/BiFunction")], some .int⟩ := by decide +kernel
theorem pd2 : parseMethodDescriptor "(II)V" = some ⟨[.int, .int], none⟩ := by decide +kernel
theorem pd3 : parseMethodDescriptor "()Z" = some ⟨[], some .boolean⟩ := by decide +kernel
theorem pd4 : parseMethodDescriptor "([BI)C" = some ⟨[(.array .byte), .int], some .char⟩ := by decide +kernel
theorem pd5 : parseMethodDescriptor "([CIILjava/lang/Void;)V" = some ⟨[(.array .char), .int, .int, (.object "java/lang/Void")], none⟩ := by decide +kernel
theorem pd6 : parseMethodDescriptor "(I)C" = some ⟨[.int], some .char⟩ := by decide +kernel
theorem pd7 : parseMethodDescriptor "()I" = some ⟨[], some .int⟩ := by decide +kernel
theorem pd8 : parseMethodDescriptor "(Ljava/lang/String;)Z" = some ⟨[(.object "java/lang/String")], some .boolean⟩ := by decide +kernel
theorem pd9 : parseMethodDescriptor "(JIJI)C" = some ⟨[.long, .int, .long, .int], some .char⟩ := by decide +kernel
theorem pd10 : parseMethodDescriptor "([C)V" = some ⟨[(.array .char)], none⟩ := by decide +kernel
theorem pd11 : parseMethodDescriptor "(C)Z" = some ⟨[.char], some .boolean⟩ := by decide +kernel
theorem pn0 : plainName "java/lang/String" = true := by first | (simp [plainName, overriddenIn]; done) | decide +kernel
theorem pn1 : plainName "jdk/internal/util/Preconditions" = true := by first | (simp [plainName, overriddenIn]; done) | decide +kernel
theorem pn2 : plainName "java/lang/StringLatin1" = true := by first | (simp [plainName, overriddenIn]; done) | decide +kernel
theorem pn3 : plainName "com/example/recordweave/recordweave/store/NhsNumberIsValidPinLaw" = true := by first | (simp [plainName, overriddenIn]; done) | decide +kernel
theorem pn4 : plainName "com/example/recordweave/recordweave/store/NhsNumber" = true := by first | (simp [plainName, overriddenIn]; done) | decide +kernel
/-- what is said of the start -/
def Gl (Z : State) (a0 : Array Value) : Prop := (∀ d ∈ tables_1, d.before a0 Z = true) ∧ Jvm.Lit.constHeld Z "java/lang/String" 7 ∧ Jvm.Lit.compactW.before a0 Z = true
/-- the String at a, coder 0, spells cs (each 0 to 255) -/
def SL (Z : State) (h : Heap) (a : Addr) (cs : List Int32) : Prop := ∃ b, Exa Z h a "java/lang/String" ∧ Fld Z h a "java/lang/String" "coder" "B" (.int 0) ∧ Fld Z h a "java/lang/String" "value" "[B" (.ref b) ∧ Av Z h b .byte cs.length (fun j => .int ((cs.getD j 0).toInt8.toInt32)) ∧ ∀ c ∈ cs, ¬ c < 0 ∧ ¬ (255 : Int32) < c
theorem SL.exa {Z : State} {h : Heap} {a : Addr} {cs : List Int32} (S : SL Z h a cs) : Exa Z h a "java/lang/String" := by obtain ⟨b, E, -⟩ := S; exact E
theorem SL.ext {Z : State} {h h' : Heap} {a : Addr} {cs : List Int32} (S : SL Z h a cs) (E : Ext h h') : SL Z h' a cs := by obtain ⟨b, r1, r2, r3, r4, r5⟩ := S; exact ⟨b, r1.ext E, r2.ext E, r3.ext E, r4.ext E, r5⟩
/-- it stands where nothing that was there is written -/
theorem SL.keep {Z : State} {h h' : Heap} {a : Addr} {cs : List Int32} {ws : List Addr} (S : SL Z h a cs) (K : Keep h h' ws) (q : ∀ x ∈ ws, h.size ≤ x) : SL Z h' a cs := by
  obtain ⟨b, r1, r2, r3, r4, r5⟩ := S
  have n1 : a ∉ ws := fun hm => Nat.not_lt.mpr (q a hm) r1.lt
  have n2 : b ∉ ws := fun hm => Nat.not_lt.mpr (q b hm) r4.lt
  exact ⟨b, r1.keep K, r2.keep K n1, r3.keep K n1, r4.keep K n2, r5⟩
theorem SL.len {Z : State} {h : Heap} {a : Addr} {cs : List Int32} (S : SL Z h a cs) : cs.length < 2 ^ 31 := by obtain ⟨b, -, -, -, ⟨_, _, _, r, _⟩, -⟩ := S; exact r
theorem SL.of {Z : State} {h : Heap} {a t : Addr} {kb : ClassId} {cs : List Int32} {n : Nat} (hn : cs.length = n) (h31 : n < 2 ^ 31) (E : Exa Z h a "java/lang/String") (F1 : Fld Z h a "java/lang/String" "coder" "B" (.int 0)) (F2 : Fld Z h a "java/lang/String" "value" "[B" (.ref t)) (A : Arv Z h t kb .byte (Int32.ofNat n) ((cs.map fun c => c.toInt8.toInt32).map Value.int) (.int 0)) (hp : ∀ c ∈ cs, ¬ c < 0 ∧ ¬ (255 : Int32) < c) : SL Z h a cs := by
  subst hn
  refine ⟨t, E, F1, F2, (Av.of_arv A (Int32.toNatClampNeg_ofNat_of_lt h31)).congr (fun j hj => ?_), hp⟩
  simp [List.getD, hj]
/-- what is said of the String class -/
def LG (Z : State) (cz : Int32) (fm : Value) : Prop := Sta Z Z.heap "java/lang/String" "COMPACT_STRINGS" "Z" (.int cz) ∧ ¬ cz = 0 ∧ Sta Z Z.heap "jdk/internal/util/Preconditions" "SIOOBE_FORMATTER" "Ljava/util/function/BiFunction;" fm ∧ fm.isRef = true
theorem byte_of {c : Int32} (h : ¬ c < 0 ∧ ¬ (255 : Int32) < c) : ∃ k : Fin 256, c = Int32.ofNat k.val := by
  obtain ⟨h1, h2⟩ := h
  rw [Int32.lt_iff_toInt_lt] at h1 h2
  have e0 : (0 : Int32).toInt = 0 := rfl
  have e1 : (255 : Int32).toInt = 255 := rfl
  refine ⟨⟨c.toInt.toNat, by omega⟩, ?_⟩
  apply Int32.toInt_inj.mp
  rw [Int32.toInt_ofNat_of_lt (by show c.toInt.toNat < 2 ^ 31; omega)]
  show c.toInt = (c.toInt.toNat : Int)
  omega
theorem byte_back {c : Int32} (h : ¬ c < 0 ∧ ¬ (255 : Int32) < c) : nar .char ((c.toInt8.toInt32 &&& (255 : Int32)).toUInt32.toUInt16.toUInt32.toInt32) = c := by
  have t : ∀ k : Fin 256, nar .char (((Int32.ofNat k.val).toInt8.toInt32 &&& (255 : Int32)).toUInt32.toUInt16.toUInt32.toInt32) = Int32.ofNat k.val := by decide +kernel
  obtain ⟨k, rfl⟩ := byte_of h
  exact t k
theorem byte_nar {c : Int32} (h : ¬ c < 0 ∧ ¬ (255 : Int32) < c) : nar .char c = c := by
  have t : ∀ k : Fin 256, nar .char (Int32.ofNat k.val) = Int32.ofNat k.val := by decide +kernel
  obtain ⟨k, rfl⟩ := byte_of h
  exact t k
theorem shr0 (x : Int32) : x >>> ((0 : Int32) &&& 31) = x := by
  apply Int32.toBitVec_inj.mp
  simp
abbrev rmL0 : Room := { frames := 0, cells := 0, slots := 0, locals := 0 }
abbrev rmL1 : Room := { frames := 1, cells := 0, slots := 0, locals := 16 }
abbrev rmL2 : Room := { frames := 2, cells := 0, slots := 0, locals := 32 }
abbrev rmL3 : Room := { frames := 3, cells := 0, slots := 0, locals := 48 }
set_option maxRecDepth 65536 in
set_option maxHeartbeats 40000000 in
theorem c_coder (l : Launch) (Z : State) (a0 : Array Value) (G : Gl Z a0) (cz : Int32) (fm : Value) (LG0 : LG Z cz fm) (h0 : Heap) (n0 : Nat) (X0 : Ext Z.heap h0) (a : Addr) (F : Fld Z h0 a "java/lang/String" "coder" "B" (.int 0)) :
    Ctr l Z (⟨"java/lang/String", "coder", "()B"⟩ : MethodName) jdk_42_method_152_code 1 (some .byte) rmL0 #[(.ref a)] h0 n0 (fun v h => h0 = h ∧ v = some (.int 0)) := by
  have hw := G.1
  obtain ⟨S0, hcz, SF, hfm⟩ := LG0
  refine Ctr.of (n1 := n0) #[.val (.ref a)] (plainFor_of_name pn0) (fun m => by first | (simp [entryFrame, mkF, argsToLocals, Value.category, maxLocals]; done) | rfl) ?_
  intro p e s m below meth c C
  refine g_gets C d11_0 (host := "") (Or.inl (wd23 hw)) Via.refl (S0.ext X0) (q := 3) rfl ?_
  refine g_if_eq C d11_3 (q' := 13) (q := 6) (by decide) (by decide) rfl (fun hy => absurd hy hcz) (fun hn => ?_)
  refine g_aloadN C d11_6 (v := (.ref a)) rfl rfl (q := 7) rfl ?_
  refine g_getf C d11_7 (host := "") (Or.inl (wd35 hw)) Via.refl F (q := 10) rfl ?_
  refine g_goto C d11_10 (q := 14) (by decide) (by decide) ?_
  refine g_nreturn C d11_14 (by simp) (z := 0) rfl (Nat.le_refl _) (by decide) (by decide) ⟨rfl, rfl⟩
set_option maxRecDepth 65536 in
set_option maxHeartbeats 40000000 in
theorem c_len (l : Launch) (Z : State) (a0 : Array Value) (G : Gl Z a0) (cz : Int32) (fm : Value) (LG0 : LG Z cz fm) (h0 : Heap) (n0 : Nat) (X0 : Ext Z.heap h0) (a : Addr) (cs : List Int32) (S : SL Z h0 a cs) :
    Ctr l Z (⟨"java/lang/String", "length", "()I"⟩ : MethodName) jdk_42_method_54_code 1 (some .int) rmL1 #[(.ref a)] h0 n0 (fun v h => h0 = h ∧ v = some (.int (Int32.ofNat cs.length))) := by
  have hw := G.1
  obtain ⟨b, E, F1, F2, B, hp⟩ := S
  refine Ctr.of (n1 := n0) #[.val (.ref a)] (plainFor_of_name pn0) (fun m => by first | (simp [entryFrame, mkF, argsToLocals, Value.category, maxLocals]; done) | rfl) ?_
  intro p e s m below meth c C
  refine g_aloadN C d10_0 (v := (.ref a)) rfl rfl (q := 1) rfl ?_
  refine g_getf C d10_1 (host := "") (Or.inl (wd37 hw)) Via.refl F2 (q := 4) rfl ?_
  refine g_alen C d10_4 B (z := (Int32.ofNat cs.length)) rfl (q := 5) rfl ?_
  refine g_aloadN C d10_5 (v := (.ref a)) rfl rfl (q := 6) rfl ?_
  refine g_callV C (W := 1) (argsL := []) (rest := [(.int (Int32.ofNat cs.length))]) (a := a) d10_6 (wd47 hw) (wd48 hw) (wd50 hw) (wd49 hw) (by decide) (nf_of C (wd50 hw)) E (Ctr.bk (c_coder l Z a0 G cz fm LG0 h0 n0 X0 a F1) C (wd51 hw) (wd11 hw) (by decide) (by decide)) (by decide) (by decide) rfl (lenOf pd0 rfl) rfl rfl (q := 9) rfl (fun v1 h1 hQ1 => ?_)
  obtain ⟨rfl, rfl⟩ := hQ1
  refine ⟨[(.int (0 : Int32)), (.int (Int32.ofNat cs.length))], rfl, ?_⟩
  refine g_ishr C d10_9 (q := 10) rfl ?_
  rw [shr0]
  refine g_ireturn C d10_10 (Nat.le_refl _) (by decide) (by decide) ⟨rfl, rfl⟩
set_option maxRecDepth 65536 in
set_option maxHeartbeats 40000000 in
theorem c_isl1 (l : Launch) (Z : State) (a0 : Array Value) (G : Gl Z a0) (cz : Int32) (fm : Value) (LG0 : LG Z cz fm) (h0 : Heap) (n0 : Nat) (X0 : Ext Z.heap h0) (a : Addr) (F : Fld Z h0 a "java/lang/String" "coder" "B" (.int 0)) :
    Ctr l Z (⟨"java/lang/String", "isLatin1", "()Z"⟩ : MethodName) jdk_42_method_154_code 1 (some .boolean) rmL0 #[(.ref a)] h0 n0 (fun v h => h0 = h ∧ v = some (.int 1)) := by
  have hw := G.1
  obtain ⟨S0, hcz, SF, hfm⟩ := LG0
  refine Ctr.of (n1 := n0) #[.val (.ref a)] (plainFor_of_name pn0) (fun m => by first | (simp [entryFrame, mkF, argsToLocals, Value.category, maxLocals]; done) | rfl) ?_
  intro p e s m below meth c C
  refine g_gets C d13_0 (host := "") (Or.inl (wd23 hw)) Via.refl (S0.ext X0) (q := 3) rfl ?_
  refine g_if_eq C d13_3 (q' := 17) (q := 6) (by decide) (by decide) rfl (fun hy => absurd hy hcz) (fun hn => ?_)
  refine g_aloadN C d13_6 (v := (.ref a)) rfl rfl (q := 7) rfl ?_
  refine g_getf C d13_7 (host := "") (Or.inl (wd35 hw)) Via.refl F (q := 10) rfl ?_
  refine g_if_ne C d13_10 (q' := 17) (q := 13) (by decide) (by decide) rfl (fun hy => absurd rfl hy) (fun hn => ?_)
  refine g_iconst C d13_13 (z := (1 : Int32)) rfl (q := 14) rfl ?_
  refine g_goto C d13_14 (q := 18) (by decide) (by decide) ?_
  refine g_nreturn C d13_18 (by simp) (z := 1) rfl (Nat.le_refl _) (by decide) (by decide) ⟨rfl, rfl⟩
set_option maxRecDepth 65536 in
set_option maxHeartbeats 40000000 in
theorem c_chkF (l : Launch) (Z : State) (a0 : Array Value) (G : Gl Z a0) (cz : Int32) (fm : Value) (LG0 : LG Z cz fm) (h0 : Heap) (n0 : Nat) (X0 : Ext Z.heap h0) (i n : Nat) (hi : i < n) (hnn : n < 2 ^ 31) :
    Ctr l Z (⟨"jdk/internal/util/Preconditions", "checkIndex", "(IILjava/util/function/BiFunction;)I"⟩ : MethodName) jdk_41_method_11_code 3 (some .int) rmL0 #[(.int (Int32.ofNat i)), (.int (Int32.ofNat n)), fm] h0 n0 (fun v h => h0 = h ∧ v = some (.int (Int32.ofNat i))) := by
  have hw := G.1
  obtain ⟨S0, hcz, SF, hfm⟩ := LG0
  have hc := own_cat hfm
  refine Ctr.of (n1 := n0) #[.val (.int (Int32.ofNat i)), .val (.int (Int32.ofNat n)), .val fm] (plainFor_of_name pn1) (fun m => by rcases ref_cases hfm with rfl | ⟨z, rfl⟩ <;> rfl) ?_
  intro p e s m below meth c C
  refine g_iloadN C d16_0 (v := (Int32.ofNat i)) rfl (q := 1) rfl ?_
  refine g_if_lt C d16_1 (q' := 9) (q := 4) (by decide) (by decide) rfl (fun hy => absurd hy (nn32 (by omega))) (fun hn => ?_)
  refine g_iloadN C d16_4 (v := (Int32.ofNat i)) rfl (q := 5) rfl ?_
  refine g_iloadN C d16_5 (v := (Int32.ofNat n)) rfl (q := 6) rfl ?_
  refine g_icmp_lt C d16_6 (q' := 16) (q := 9) (by decide) (by decide) rfl (fun hy => ?_) (fun hn_ => absurd (by rw [Int32.lt_iff_toInt_lt, Int32.toInt_ofNat_of_lt (by omega), Int32.toInt_ofNat_of_lt hnn]; omega) hn_)
  refine g_iloadN C d16_16 (v := (Int32.ofNat i)) rfl (q := 17) rfl ?_
  refine g_ireturn C d16_17 (Nat.le_refl _) (by decide) (by decide) ⟨rfl, rfl⟩
set_option maxRecDepth 65536 in
set_option maxHeartbeats 40000000 in
theorem c_schk (l : Launch) (Z : State) (a0 : Array Value) (G : Gl Z a0) (cz : Int32) (fm : Value) (LG0 : LG Z cz fm) (h0 : Heap) (n0 : Nat) (X0 : Ext Z.heap h0) (i n : Nat) (hi : i < n) (hnn : n < 2 ^ 31) :
    Ctr l Z (⟨"java/lang/String", "checkIndex", "(II)V"⟩ : MethodName) jdk_42_method_155_code 2 none rmL1 #[(.int (Int32.ofNat i)), (.int (Int32.ofNat n))] h0 n0 (fun v h => h0 = h ∧ v = none) := by
  have LG1 := LG0
  have hw := G.1
  obtain ⟨S0, hcz, SF, hfm⟩ := LG0
  refine Ctr.of (n1 := n0) #[.val (.int (Int32.ofNat i)), .val (.int (Int32.ofNat n))] (plainFor_of_name pn0) (fun m => by first | (simp [entryFrame, mkF, argsToLocals, Value.category, maxLocals]; done) | rfl) ?_
  intro p e s m below meth c C
  refine g_iloadN C d15_0 (v := (Int32.ofNat i)) rfl (q := 1) rfl ?_
  refine g_iloadN C d15_1 (v := (Int32.ofNat n)) rfl (q := 2) rfl ?_
  refine g_gets C d15_2 (host := "") (Or.inl (wd69 hw)) Via.refl (SF.ext X0) (q := 5) rfl ?_
  refine g_callS C (W := 0) (argsL := [(.int (Int32.ofNat i)), (.int (Int32.ofNat n)), fm]) (rest := []) d15_5 (wd71 hw) (wd72 hw) (wd70 hw) (wd73 hw) (by decide) (Ctr.bk (c_chkF l Z a0 G cz fm LG1 h0 n0 X0 i n hi hnn) C (wd73 hw) (wd70 hw) (by decide) (by decide)) (by decide) (by decide) rfl (lenOf pd1 rfl) rfl rfl (q := 8) rfl (fun v1 h1 hQ1 => ?_)
  obtain ⟨rfl, rfl⟩ := hQ1
  refine ⟨[(.int (Int32.ofNat i))], rfl, ?_⟩
  refine g_pop C d15_8 rfl (q := 9) rfl ?_
  refine g_return C d15_9 (Nat.le_refl _) (by decide) (by decide) ⟨rfl, rfl⟩
set_option maxRecDepth 65536 in
set_option maxHeartbeats 40000000 in
theorem c_l1char (l : Launch) (Z : State) (a0 : Array Value) (G : Gl Z a0) (cz : Int32) (fm : Value) (LG0 : LG Z cz fm) (h0 : Heap) (n0 : Nat) (X0 : Ext Z.heap h0) (b : Addr) (cs : List Int32) (i : Nat) (B : Av Z h0 b .byte cs.length (fun j => .int ((cs.getD j 0).toInt8.toInt32))) (hi : i < cs.length) (hnn : cs.length < 2 ^ 31) (hb : ¬ cs.getD i 0 < 0 ∧ ¬ (255 : Int32) < cs.getD i 0) :
    Ctr l Z (⟨"java/lang/StringLatin1", "charAt", "([BI)C"⟩ : MethodName) jdk_43_method_2_code 2 (some .char) rmL2 #[(.ref b), (.int (Int32.ofNat i))] h0 n0 (fun v h => h0 = h ∧ v = some (.int (cs.getD i 0))) := by
  have hw := G.1
  refine Ctr.of (n1 := n0) #[.val (.ref b), .val (.int (Int32.ofNat i))] (plainFor_of_name pn2) (fun m => by first | (simp [entryFrame, mkF, argsToLocals, Value.category, maxLocals]; done) | rfl) ?_
  intro p e s m below meth c C
  refine g_iloadN C d14_0 (v := (Int32.ofNat i)) rfl (q := 1) rfl ?_
  refine g_aloadN C d14_1 (v := (.ref b)) rfl rfl (q := 2) rfl ?_
  refine g_alen C d14_2 B (z := (Int32.ofNat cs.length)) rfl (q := 3) rfl ?_
  refine g_callS C (W := 0) (argsL := [(.int (Int32.ofNat i)), (.int (Int32.ofNat cs.length))]) (rest := []) d14_3 (wd66 hw) (wd67 hw) (wd11 hw) (wd68 hw) (by decide) (Ctr.bk (c_schk l Z a0 G cz fm LG0 h0 n0 X0 i cs.length hi hnn) C (wd68 hw) (wd11 hw) (by decide) (by decide)) (by decide) (by decide) rfl (lenOf pd2 rfl) rfl rfl (q := 6) rfl (fun v1 h1 hQ1 => ?_)
  obtain ⟨rfl, rfl⟩ := hQ1
  refine ⟨[], rfl, ?_⟩
  refine g_aloadN C d14_6 (v := (.ref b)) rfl rfl (q := 7) rfl ?_
  refine g_iloadN C d14_7 (v := (Int32.ofNat i)) rfl (q := 8) rfl ?_
  refine g_baload C d14_8 (i := i) B hi rfl rfl (q := 9) rfl ?_
  refine g_sipush C d14_9 (z := (255 : Int32)) rfl (q := 12) rfl ?_
  refine g_iand C d14_12 (q := 13) rfl ?_
  refine g_i2c C d14_13 (q := 14) rfl ?_
  refine g_nreturn C d14_14 (by simp) (z := cs.getD i 0) (byte_back hb) (Nat.le_refl _) (by decide) (by decide) ⟨rfl, rfl⟩
set_option maxRecDepth 65536 in
set_option maxHeartbeats 40000000 in
theorem c_charAt (l : Launch) (Z : State) (a0 : Array Value) (G : Gl Z a0) (cz : Int32) (fm : Value) (LG0 : LG Z cz fm) (h0 : Heap) (n0 : Nat) (X0 : Ext Z.heap h0) (a : Addr) (cs : List Int32) (S : SL Z h0 a cs) (i : Nat) (hi : i < cs.length) :
    Ctr l Z (⟨"java/lang/String", "charAt", "(I)C"⟩ : MethodName) jdk_42_method_56_code 2 (some .char) rmL3 #[(.ref a), (.int (Int32.ofNat i))] h0 n0 (fun v h => h0 = h ∧ v = some (.int (cs.getD i 0))) := by
  have hw := G.1
  have hnn := S.len
  obtain ⟨b, E, F1, F2, B, hp⟩ := S
  have hb : ¬ cs.getD i 0 < 0 ∧ ¬ (255 : Int32) < cs.getD i 0 := hp _ (by simp [List.getD, hi])
  refine Ctr.of (n1 := n0) #[.val (.ref a), .val (.int (Int32.ofNat i))] (plainFor_of_name pn0) (fun m => by first | (simp [entryFrame, mkF, argsToLocals, Value.category, maxLocals]; done) | rfl) ?_
  intro p e s m below meth c C
  refine g_aloadN C d12_0 (v := (.ref a)) rfl rfl (q := 1) rfl ?_
  refine g_callV C (W := 0) (argsL := []) (rest := []) (a := a) d12_1 (wd57 hw) (wd58 hw) (wd60 hw) (wd59 hw) (by decide) (nf_of C (wd60 hw)) E (Ctr.bk (c_isl1 l Z a0 G cz fm LG0 h0 n0 X0 a F1) C (wd61 hw) (wd11 hw) (by decide) (by decide)) (by decide) (by decide) rfl (lenOf pd3 rfl) rfl rfl (q := 4) rfl (fun v1 h1 hQ1 => ?_)
  obtain ⟨rfl, rfl⟩ := hQ1
  refine ⟨[(.int (1 : Int32))], rfl, ?_⟩
  refine g_if_eq C d12_4 (q' := 16) (q := 7) (by decide) (by decide) rfl (fun hy => absurd hy (by decide)) (fun hn => ?_)
  refine g_aloadN C d12_7 (v := (.ref a)) rfl rfl (q := 8) rfl ?_
  refine g_getf C d12_8 (host := "") (Or.inl (wd37 hw)) Via.refl F2 (q := 11) rfl ?_
  refine g_iloadN C d12_11 (v := (Int32.ofNat i)) rfl (q := 12) rfl ?_
  refine g_callS C (W := 0) (argsL := [(.ref b), (.int (Int32.ofNat i))]) (rest := []) d12_12 (wd62 hw) (wd63 hw) (wd64 hw) (wd65 hw) (by decide) (Ctr.bk (c_l1char l Z a0 G cz fm LG0 h0 n0 X0 b cs i B hi hnn hb) C (wd65 hw) (wd64 hw) (by decide) (by decide)) (by decide) (by decide) rfl (lenOf pd4 rfl) rfl rfl (q := 15) rfl (fun v2 h2 hQ2 => ?_)
  obtain ⟨rfl, rfl⟩ := hQ2
  refine ⟨[(.int (cs.getD i 0))], rfl, ?_⟩
  refine g_nreturn C d12_15 (by simp) (z := cs.getD i 0) (byte_nar hb) (Nat.le_refl _) (by decide) (by decide) ⟨rfl, rfl⟩
theorem and255_chars (x : Int32) : ¬ nar .char ((x &&& (255 : Int32)).toUInt32.toUInt16.toUInt32.toInt32) < 0 ∧ ¬ (255 : Int32) < nar .char ((x &&& (255 : Int32)).toUInt32.toUInt16.toUInt32.toInt32) := by
  have t : ∀ k : Fin 256, ¬ nar .char ((Int32.ofNat k.val).toUInt32.toUInt16.toUInt32.toInt32) < 0 ∧ ¬ (255 : Int32) < nar .char ((Int32.ofNat k.val).toUInt32.toUInt16.toUInt32.toInt32) := by decide +kernel
  have h : (x &&& 255).toBitVec.toNat < 256 := by
    simp only [Int32.toBitVec_and, BitVec.toNat_and]
    exact Nat.lt_succ_of_le Nat.and_le_right
  have e : (x &&& 255) = Int32.ofNat (x &&& 255).toBitVec.toNat := by
    apply Int32.toBitVec_inj.mp
    show _ = BitVec.ofNat 32 _
    rw [BitVec.ofNat_toNat]; simp
  rw [e]
  exact t ⟨_, h⟩
/-- new String(char[]) of Latin-1 chars, as a callee that pays -/
theorem bk_str {p : Program} {l : Launch} {e : Env} {R : Room} {s : State} {m : MethodId} {args : Array Value} {below : List Frame} {meth : Method} {c : Code} {Z : State} {a0 : Array Value} {h : Heap} {own nm : String} {code : ByteArray} {ml W : Nat} {ret : Option FieldType} (C : Cx p s m meth c Z own nm code ml ret) (hw : ∀ d ∈ tables_1, d.before a0 Z = true) (wi : (Jvm.Cond.instantiable "java/lang/String" 4).before a0 Z = true)
    {x b : Addr} {f : Nat → Value} {cs : List Int32} {v0 c0 : Value} {z : Int32} {n n0 : Nat} (hx0 : n0 ≤ x) (hh0 : n0 ≤ h.size) (E : Exa Z h x "java/lang/String") (V : Fld Z h x "java/lang/String" "value" "[B" v0) (K0 : Fld Z h x "java/lang/String" "coder" "B" c0) (A : Av Z h b .char n f) (hf : ∀ j, j < n → f j = (cs.map Value.int).getD j (.int 0)) (S : Sta Z h "java/lang/String" "COMPACT_STRINGS" "Z" (.int z)) (hz : ¬ z = 0)
    (hn : cs.length = n) (l0 : 0 < n) (l2 : n ≤ 4000) (hp : ∀ c ∈ cs, ¬ c < 0 ∧ ¬ (255 : Int32) < c) (hfr : 4 ≤ R.frames) (hlo : W + 65 ≤ R.locals) :
    BK l R p e below s args (⟨"java/lang/String", "<init>", "([C)V"⟩ : MethodName) 3 W #[.ref x, .ref b] h 1 n n0 (fun v h' => v = none ∧ Keep h h' [x] ∧ Exa Z h' x "java/lang/String" ∧ Fld Z h' x "java/lang/String" "coder" "B" (.int 0) ∧ ∃ (t : Addr) (kb : ClassId), n0 ≤ t ∧ h.size ≤ t ∧ ¬ t = x ∧ Fld Z h' x "java/lang/String" "value" "[B" (.ref t) ∧ Arv Z h' t kb .byte (Int32.ofNat n) ((cs.map fun c => c.toInt8.toInt32).map Value.int) (.int 0)) := by
  have hws : ∀ d ∈ StrChars.Road.words, d.before a0 Z = true := fun d hd => hw d ((by decide +kernel : ∀ d ∈ StrChars.Road.words, d ∈ tables_1) d hd)
  obtain ⟨kA, K⟩ := A.arv hf (fun j hj => by
    have hj' : j < cs.length := by omega
    have e1 : (cs.map Value.int).getD j (.int 0) = .int cs[j] := by simp [List.getD, hj']
    rw [e1]
    have q := hp _ (List.getElem_mem hj')
    have q1 := q.1; have q2 := q.2
    rw [Int32.lt_iff_toInt_lt] at q1 q2
    have e0 : (0 : Int32).toInt = 0 := rfl
    have e2 : (255 : Int32).toInt = 255 := rfl
    have e3 : (65535 : Int32).toInt = 65535 := rfl
    show (decide (0 ≤ cs[j]) && decide (cs[j] ≤ 65535)) = true
    rw [Bool.and_eq_true, decide_eq_true_eq, decide_eq_true_eq, Int32.le_iff_toInt_le, Int32.le_iff_toInt_le]
    omega)
  refine Back.mono (StrChars.Road.backV C.2.2.2.2.1 hws (kI := 4) wi (bs := cs.map fun c => c.toInt8.toInt32) hx0 hh0 E V K0 K S hz hn rfl l0 l2 hp rfl hfr hlo) (fun _ _ q => q) (fun P a v B _ hq => ?_)
  obtain ⟨L, ⟨q1, q2, q3, q4, q5, t, kb, q6, q7, q8, q9, q10⟩, hl, hc, hs⟩ := hq
  exact ⟨L, ⟨⟨q1, q3, q4, q5, t, kb, q6, q7, q8, q9, q10⟩, q2⟩, hl, hc, hs⟩
abbrev rmI4 : Room := { frames := 1, cells := 2, slots := 4, locals := 16 }
abbrev rmI1 : Room := { frames := 2, cells := 2, slots := 4, locals := 48 }
set_option maxRecDepth 65536 in
set_option maxHeartbeats 40000000 in
theorem c_init4e (l : Launch) (Z : State) (a0 : Array Value) (G : Gl Z a0) (a b : Addr) (h0 : Heap) (n0 : Nat) (Z0 : n0 ≤ h0.size) (ga : n0 ≤ a) (X0 : Ext Z.heap h0) (E0 : Exa Z h0 a "java/lang/String") (o1 o2 : Value) (V0 : Fld Z h0 a "java/lang/String" "value" "[B" o1) (K0 : Fld Z h0 a "java/lang/String" "coder" "B" o2) :
    CtrW l Z (⟨"java/lang/String", "<init>", "([CIILjava/lang/Void;)V"⟩ : MethodName) jdk_42_method_149_code 6 none rmI4 #[(.ref a), (.ref b), (.int 0), (.int 0), .null] h0 n0 (fun vm => IB Z vm []) (fun v vm h => v = none ∧ Keep h0 h [a] ∧ SL Z h a [] ∧ IB Z vm [""]) := by
  have hw := G.1
  have wS : ∀ a ∈ Bundle.stringAtoms, a.before a0 Z = true := fun d hd => hw d ((by decide +kernel : ∀ d ∈ Bundle.stringAtoms, d ∈ tables_1) d hd)
  refine CtrW.of (n1 := h0.size) #[.val (.ref a), .val (.ref b), .val (.int 0), .val (.int 0), .val .null, .unset] (plainFor_of_name pn0) (fun m => by first | (simp [entryFrame, mkF, argsToLocals, Value.category, maxLocals]; done) | rfl) ?_
  intro p e s0 vm0 m below meth c C hs0 hP0 Sw
  refine g_aloadN C d4_0 (v := (.ref a)) rfl rfl (q := 1) rfl ?_
  refine g_initO C d4_1 (wd20 hw) (wd21 hw) (wd22 hw) rfl (by decide) (W := 0) rfl (by decide) (q := 4) rfl ?_
  refine g_iloadN C d4_4 (v := 0) rfl (q := 5) rfl ?_
  refine g_if_ne C d4_5 (q' := 27) (q := 8) (by decide) (by decide) rfl (fun hy => absurd rfl hy) (fun hn => ?_)
  refine g_aloadN C d4_8 (v := (.ref a)) rfl rfl (q := 9) rfl ?_
  refine g_ldcS C Sw d4_9 (wd74 hw) wS (fun b cl hb => by rw [hs0]; exact X0.2 b cl hb) (by rw [hs0]; exact Nat.le_refl _) hP0 (by simp) G.2.1 G.2.2 (vs := []) (z := 0) ⟨by simp, rfl⟩ (by decide) rfl (nn := 0) (by decide) (by decide) (by decide) (by decide) (q := 11) rfl (fun ae vm1 h1 be kb Ee C1 Sw1 I1 Lt Ea Fco Fva Ar => ?_)
  refine g_getf C1 d4_11 (host := "") (Or.inl (wd37 hw)) Via.refl Fva (q := 14) rfl ?_
  refine Go.low Z0 ?_
  have E1 := E0.ext Ee
  have V1 := V0.ext Ee
  have K1 := K0.ext Ee
  have Ab : Av Z h1 be .byte 0 (fun _ => .int 0) := (Av.of_arv (N := 0) Ar rfl).congr (fun j hj => absurd hj (Nat.not_lt_zero _))
  have nb := Ab.ne_exa E1 (wd10 hw)
  refine g_putf C1 d4_14 (host := "") (Or.inl (wd37 hw)) Via.refl V1 E1 (Or.inr ⟨(wd38 hw), rfl, rfl⟩) (wd10 hw) (ty := (.array .byte)) (by decide) rfl rfl ga (q := 17) rfl (fun h2 W2 => ?_)
  have E2 := E1.wr W2
  have V2 := V1.same W2
  have K2 := K1.other W2 (Or.inr (slot_ne (Or.inr (wd36 hw)) (Or.inr (wd38 hw)) (by decide) (t := .byte) (t' := .array .byte) (by decide) (by decide)))
  refine g_aloadN C1 d4_17 (v := (.ref a)) rfl rfl (q := 18) rfl ?_
  refine g_ldcA C1 d4_18 (wd74 hw) Lt (q := 20) rfl ?_
  refine g_getf C1 d4_20 (host := "") (Or.inl (wd35 hw)) Via.refl (Fco.other W2 (Or.inr (slot_ne (Or.inr (wd36 hw)) (Or.inr (wd38 hw)) (by decide) (t := .byte) (t' := .array .byte) (by decide) (by decide)))) (q := 23) rfl ?_
  refine g_putf C1 d4_23 (host := "") (Or.inl (wd35 hw)) Via.refl K2 E2 (Or.inr ⟨(wd36 hw), rfl, rfl⟩) (wd10 hw) (ty := .byte) (by decide) rfl rfl ga (q := 26) rfl (fun h3 W3 => ?_)
  have E3 := E2.wr W3
  have V3 := V2.other W3 (Or.inr (slot_ne (Or.inr (wd38 hw)) (Or.inr (wd36 hw)) (by decide) (t := .array .byte) (t' := .byte) (by decide) (by decide)))
  have K3 := K2.same W3
  have A3 := (Ab.other W2 nb).other W3 nb
  have S3 : SL Z h3 a [] := ⟨be, E3, K3, V3, A3.congr (fun j hj => absurd hj (by simp)), fun c hc => by simp at hc⟩
  refine g_returnW C1 (Sw1.mono (by rw [W3.size, W2.size]; exact Nat.le_refl _)) d4_26 (Nat.le_refl _) (by decide) (by decide) (fun vm' hW => ⟨rfl, (((Ext.kp Ee [a]).wr W2 (Or.inl (by simp))).wr W3 (Or.inl (by simp))), S3, IB.warm I1 hW⟩)
set_option maxRecDepth 65536 in
set_option maxHeartbeats 40000000 in
theorem c_init1e (l : Launch) (Z : State) (a0 : Array Value) (G : Gl Z a0) (a b : Addr) (h0 : Heap) (n0 : Nat) (Z0 : n0 ≤ h0.size) (ga : n0 ≤ a) (X0 : Ext Z.heap h0) (E0 : Exa Z h0 a "java/lang/String") (o1 o2 : Value) (V0 : Fld Z h0 a "java/lang/String" "value" "[B" o1) (K0 : Fld Z h0 a "java/lang/String" "coder" "B" o2) (f0 : Nat → Value) (B0 : Av Z h0 b .char 0 f0) :
    CtrW l Z (⟨"java/lang/String", "<init>", "([C)V"⟩ : MethodName) jdk_42_method_3_code 2 none rmI1 #[(.ref a), (.ref b)] h0 n0 (fun vm => IB Z vm []) (fun v vm h => v = none ∧ Keep h0 h [a] ∧ SL Z h a [] ∧ IB Z vm [""]) := by
  have hw := G.1
  refine CtrW.of (n1 := n0) #[.val (.ref a), .val (.ref b)] (plainFor_of_name pn0) (fun m => by first | (simp [entryFrame, mkF, argsToLocals, Value.category, maxLocals]; done) | rfl) ?_
  intro p e s0 vm0 m below meth c C hs0 hP0 Sw
  refine g_aloadN C d3_0 (v := (.ref a)) rfl rfl (q := 1) rfl ?_
  refine g_aloadN C d3_1 (v := (.ref b)) rfl rfl (q := 2) rfl ?_
  refine g_iconst C d3_2 (z := (0 : Int32)) rfl (q := 3) rfl ?_
  refine g_aloadN C d3_3 (v := (.ref b)) rfl rfl (q := 4) rfl ?_
  refine g_alen C d3_4 B0 (z := (0 : Int32)) rfl (q := 5) rfl ?_
  refine g_aconst_null C d3_5 (q := 6) rfl ?_
  refine g_callIW C (W := 0) (argsL := [(.ref b), (.int (0 : Int32)), (.int (0 : Int32)), .null]) (rest := []) (a := a) Sw d3_6 rfl (wd16 hw) (wd17 hw) (wd11 hw) (wd19 hw) (by decide) (c_init4e l Z a0 G a b h0 n0 Z0 ga X0 E0 o1 o2 V0 K0) (by decide) (by decide) (by decide) (by decide) rfl (lenOf pd5 rfl) rfl rfl (q := 9) rfl (fun vm' hW' => IB.warm hP0 hW') (fun v1 vm1 h1 hQ1 C1 Sw1 hW391 => ?_)
  obtain ⟨rfl, K1, S1, I1⟩ := hQ1
  refine ⟨[], rfl, ?_⟩
  exact g_returnW C1 Sw1 d3_9 (Nat.le_refl _) (by decide) (by decide) (fun vm' hW => ⟨rfl, K1, S1, IB.warm I1 hW⟩)
abbrev rmIv : Room := { frames := 4, cells := 0, slots := 0, locals := 80 }
abbrev BY (c : Int32) : Prop := ¬ c < 0 ∧ ¬ (255 : Int32) < c
def dg (c : Int32) : Prop := ¬ c < 48 ∧ ¬ 57 < c
def wsum (f : Nat → Int32) : Nat → Int32
  | 0 => 0
  | i + 1 => if i < 9 then wsum f i + (f i - 48) * (10 - Int32.ofNat i) else wsum f i
def NV (cs : List Int32) : Prop := cs.length = 10 ∧ (∀ j, j < 10 → dg (cs.getD j 0)) ∧ (11 - wsum (fun j => cs.getD j 0) 10 % 11) % 11 = cs.getD 9 0 - 48
/-- r is the answer on P -/
def AN (P : Prop) (r : Int32) : Prop := (P ∧ r = 1) ∨ (¬ P ∧ r = 0)
theorem AN.uniq {P : Prop} {r s : Int32} (h1 : AN P r) (h2 : AN P s) : r = s := by
  rcases h1 with ⟨p, rfl⟩ | ⟨p, rfl⟩ <;> rcases h2 with ⟨q, rfl⟩ | ⟨q, rfl⟩ <;> first | rfl | exact absurd p q | exact absurd q p
theorem land255 (x : Int64) : ∃ k : Fin 256, (x &&& (255 : Int64)).toInt32 = Int32.ofNat k.val := by
  have h : (x &&& 255).toBitVec.toNat < 256 := by
    simp only [Int64.toBitVec_and, BitVec.toNat_and]
    exact Nat.lt_succ_of_le Nat.and_le_right
  refine ⟨⟨_, h⟩, ?_⟩
  apply Int32.toBitVec_inj.mp
  show (x &&& 255).toBitVec.signExtend 32 = BitVec.ofNat 32 (x &&& 255).toBitVec.toNat
  rw [BitVec.signExtend_eq_setWidth_of_le _ (by decide)]
  apply BitVec.eq_of_toNat_eq
  simp
theorem pk1 : ∀ k : Fin 256, BY (nar .char ((Int32.ofNat k.val).toUInt32.toUInt16.toUInt32.toInt32)) := by decide +kernel
theorem pk2 : ∀ k : Fin 256, BY (nar .char (((48 : Int32) + Int32.ofNat k.val % 10).toUInt32.toUInt16.toUInt32.toInt32)) := by decide +kernel
set_option maxRecDepth 65536 in
set_option maxHeartbeats 40000000 in
theorem c_pick (l : Launch) (Z : State) (a0 : Array Value) (G : Gl Z a0) (bits : Int64) (sh : Int32) (mask : Int64) (mb : Int32) (h0 : Heap) (n0 : Nat) :
    Ctr l Z (⟨"com/example/recordweave/recordweave/store/NhsNumberIsValidPinLaw", "pick", "(JIJI)C"⟩ : MethodName) method_2_code 7 (some .char) rmL0 #[(.long bits), (.int sh), (.long mask), (.int mb)] h0 n0 (fun v h => h0 = h ∧ ∃ c, v = some (.int c) ∧ BY c) := by
  have hw := G.1
  obtain ⟨k, ek⟩ := land255 (XT.ushrL bits sh)
  refine Ctr.of (n1 := n0) #[.val (.long bits), .second, .val (.int sh), .val (.long mask), .second, .val (.int mb), .unset] (plainFor_of_name pn3) (fun m => by first | (simp [entryFrame, mkF, argsToLocals, Value.category, maxLocals]; done) | rfl) ?_
  intro p e s m below meth c C
  refine g_lloadN C d1_0 (v := bits) rfl (q := 1) rfl ?_
  refine g_iloadN C d1_1 (v := sh) rfl (q := 2) rfl ?_
  refine g_lushr C d1_2 (q := 3) rfl ?_
  refine g_ldc2Long C d1_3 (wd4 hw) (q := 6) rfl ?_
  refine g_land C d1_6 (q := 7) rfl ?_
  refine g_l2i C d1_7 (q := 8) rfl ?_
  rw [ek]
  refine g_istore C d1_8 (L' := #[.val (.long bits), .second, .val (.int sh), .val (.long mask), .second, .val (.int mb), .val (.int (Int32.ofNat k.val))]) rfl (q := 10) rfl ?_
  refine g_lloadN C d1_10 (v := mask) rfl (q := 11) rfl ?_
  refine g_iload C d1_11 (v := mb) rfl (q := 13) rfl ?_
  refine g_lushr C d1_13 (q := 14) rfl ?_
  refine g_lconst C d1_14 (z := (1 : Int64)) rfl (q := 15) rfl ?_
  refine g_land C d1_15 (q := 16) rfl ?_
  refine g_lconst C d1_16 (z := (0 : Int64)) rfl (q := 17) rfl ?_
  refine g_lcmp C d1_17 (q := 18) rfl ?_
  refine g_if_eq C d1_18 (q' := 31) (q := 21) (by decide) (by decide) rfl (fun hy => ?_) (fun hn => ?_)
  ·
    refine g_iload C d1_31 (v := (Int32.ofNat k.val)) rfl (q := 33) rfl ?_
    refine g_i2c C d1_33 (q := 34) rfl ?_
    refine g_nreturn C d1_34 (by simp) rfl (Nat.le_refl _) (by decide) (by decide) ⟨rfl, _, rfl, pk1 k⟩
  ·
    refine g_bipush C d1_21 (z := (48 : Int32)) rfl (q := 23) rfl ?_
    refine g_iload C d1_23 (v := (Int32.ofNat k.val)) rfl (q := 25) rfl ?_
    refine g_bipush C d1_25 (z := (10 : Int32)) rfl (q := 27) rfl ?_
    refine g_irem C d1_27 (by decide) (q := 28) rfl ?_
    refine g_iadd C d1_28 (q := 29) rfl ?_
    refine g_i2c C d1_29 (q := 30) rfl ?_
    refine g_nreturn C d1_30 (by simp) rfl (Nat.le_refl _) (by decide) (by decide) ⟨rfl, _, rfl, pk2 k⟩
set_option maxRecDepth 65536 in
set_option maxHeartbeats 40000000 in
theorem c_dig (l : Launch) (Z : State) (a0 : Array Value) (G : Gl Z a0) (ch : Int32) (h0 : Heap) (n0 : Nat) :
    Ctr l Z (⟨"com/example/recordweave/recordweave/store/NhsNumberIsValidPinLaw", "dig", "(C)Z"⟩ : MethodName) method_3_code 1 (some .boolean) rmL0 #[(.int ch)] h0 n0 (fun v h => h0 = h ∧ ∃ r, v = some (.int r) ∧ AN (dg ch) r) := by
  have hw := G.1
  refine Ctr.of (n1 := n0) #[.val (.int ch)] (plainFor_of_name pn3) (fun m => by first | (simp [entryFrame, mkF, argsToLocals, Value.category, maxLocals]; done) | rfl) ?_
  intro p e s m below meth c C
  refine g_iloadN C d9_0 (v := ch) rfl (q := 1) rfl ?_
  refine g_bipush C d9_1 (z := (48 : Int32)) rfl (q := 3) rfl ?_
  refine g_icmp_lt C d9_3 (q' := 16) (q := 6) (by decide) (by decide) rfl (fun h1 => ?_) (fun h2 => ?_)
  ·
    refine g_iconst C d9_16 (z := (0 : Int32)) rfl (q := 17) rfl ?_
    refine g_nreturn C d9_17 (by simp) (z := 0) rfl (Nat.le_refl _) (by decide) (by decide) ⟨rfl, _, rfl, Or.inr ⟨fun q => q.1 h1, rfl⟩⟩
  ·
    refine g_iloadN C d9_6 (v := ch) rfl (q := 7) rfl ?_
    refine g_bipush C d9_7 (z := (57 : Int32)) rfl (q := 9) rfl ?_
    refine g_icmp_gt C d9_9 (q' := 16) (q := 12) (by decide) (by decide) rfl (fun h3 => ?_) (fun h4 => ?_)
    ·
      refine g_iconst C d9_16 (z := (0 : Int32)) rfl (q := 17) rfl ?_
      refine g_nreturn C d9_17 (by simp) (z := 0) rfl (Nat.le_refl _) (by decide) (by decide) ⟨rfl, _, rfl, Or.inr ⟨fun q => q.2 h3, rfl⟩⟩
    ·
      refine g_iconst C d9_12 (z := (1 : Int32)) rfl (q := 13) rfl ?_
      refine g_goto C d9_13 (q := 17) (by decide) (by decide) ?_
      refine g_nreturn C d9_17 (by simp) (z := 1) rfl (Nat.le_refl _) (by decide) (by decide) ⟨rfl, _, rfl, Or.inl ⟨⟨h2, h4⟩, rfl⟩⟩
set_option maxRecDepth 65536 in
set_option maxHeartbeats 40000000 in
theorem c_validN (l : Launch) (Z : State) (a0 : Array Value) (G : Gl Z a0) (h0 : Heap) (n0 : Nat) :
    Ctr l Z (⟨"com/example/recordweave/recordweave/store/NhsNumber", "isValid", "(Ljava/lang/String;)Z"⟩ : MethodName) prog_2_method_2_code 4 (some .boolean) rmIv #[.null] h0 n0 (fun v h => h0 = h ∧ v = some (.int 0)) := by
  have hw := G.1
  refine Ctr.of (n1 := n0) #[.val .null, .unset, .unset, .unset] (plainFor_of_name pn4) (fun m => by first | (simp [entryFrame, mkF, argsToLocals, Value.category, maxLocals]; done) | rfl) ?_
  intro p e s m below meth c C
  refine g_aloadN C d2_0 (v := .null) rfl rfl (q := 1) rfl ?_
  refine g_ifnullY C d2_1 (a := 0) (q := 13) (by decide) (by decide) ?_
  refine g_iconst C d2_13 (z := (0 : Int32)) rfl (q := 14) rfl ?_
  refine g_nreturn C d2_14 (by simp) (z := 0) rfl (Nat.le_refl _) (by decide) (by decide) ⟨rfl, rfl⟩
set_option maxRecDepth 65536 in
set_option maxHeartbeats 40000000 in
theorem loopV {p : Program} {e : Env} {s : State} {m : MethodId} {args : Array Value} {below : List Frame} {meth : Method} {c : Code} (l : Launch) (Z : State) (a0 : Array Value) (G : Gl Z a0) (cz : Int32) (fm : Value) (LG0 : LG Z cz fm) (h0 : Heap) (n0 : Nat) (X0 : Ext Z.heap h0) (a : Addr) (cs : List Int32) (S : SL Z h0 a cs) (hl : cs.length = 10) (C : Cx p s m meth c Z "com/example/recordweave/recordweave/store/NhsNumber" "isValid" prog_2_method_2_code 4 (some .boolean)) (d i : Nat) (s3 : Slot) (hd : d = 10 - i) (hi10 : i ≤ 10) (hd2 : ∀ j, j < i → dg (cs.getD j 0)) (hs3 : s3 = .unset ∨ ∃ x, s3 = .val (.int x)) :
    Go p l e rmIv s m args below meth c (FinN s below rmIv n0 (fun v h => h0 = h ∧ ∃ r, v = some (.int r) ∧ AN (NV cs) r)) n0 h0 (0 + rmL1.cells) (0 + rmL1.slots) 19 #[.val (.ref a), .val (.int (wsum (fun j => cs.getD j 0) i)), .val (.int (Int32.ofNat i)), s3] [] := by
  have hw := G.1
  induction d generalizing i s3 with
  | zero =>
    have ei : i = 10 := by omega
    subst ei
    refine g_iloadN C d2_19 (v := (Int32.ofNat 10)) rfl (q := 20) rfl ?_
    refine g_bipush C d2_20 (z := (10 : Int32)) rfl (q := 22) rfl ?_
    refine g_icmp_ge C d2_22 (q' := 69) (q := 25) (by decide) (by decide) rfl (fun hy => ?_) (fun hn => absurd hn (by decide))
    refine g_bipush C d2_69 (z := (11 : Int32)) rfl (q := 71) rfl ?_
    refine g_iloadN C d2_71 (v := (wsum (fun j => cs.getD j 0) 10)) rfl (q := 72) rfl ?_
    refine g_bipush C d2_72 (z := (11 : Int32)) rfl (q := 74) rfl ?_
    refine g_irem C d2_74 (by decide) (q := 75) rfl ?_
    refine g_isub C d2_75 (q := 76) rfl ?_
    refine g_bipush C d2_76 (z := (11 : Int32)) rfl (q := 78) rfl ?_
    refine g_irem C d2_78 (by decide) (q := 79) rfl ?_
    refine g_istoreN C d2_79 (L' := #[.val (.ref a), .val (.int (wsum (fun j => cs.getD j 0) 10)), .val (.int (((11 : Int32) - ((wsum (fun j => cs.getD j 0) 10) % (11 : Int32))) % (11 : Int32))), s3]) rfl (q := 80) rfl ?_
    refine g_iloadN C d2_80 (v := (((11 : Int32) - ((wsum (fun j => cs.getD j 0) 10) % (11 : Int32))) % (11 : Int32))) rfl (q := 81) rfl ?_
    refine g_aloadN C d2_81 (v := (.ref a)) rfl rfl (q := 82) rfl ?_
    refine g_bipush C d2_82 (z := (9 : Int32)) rfl (q := 84) rfl ?_
    refine g_callV C (W := 1) (argsL := [(.int (9 : Int32))]) (rest := [(.int (((11 : Int32) - ((wsum (fun j => cs.getD j 0) 10) % (11 : Int32))) % (11 : Int32)))]) (a := a) d2_84 (wd52 hw) (wd53 hw) (wd55 hw) (wd54 hw) (by decide) (nf_of C (wd55 hw)) S.exa (Ctr.bk (c_charAt l Z a0 G cz fm LG0 h0 n0 X0 a cs S 9 (by omega)) C (wd56 hw) (wd11 hw) (by decide) (by decide)) (by decide) (by decide) rfl (lenOf pd6 rfl) rfl rfl (q := 87) rfl (fun v1 h1 hQ1 => ?_)
    obtain ⟨rfl, rfl⟩ := hQ1
    refine ⟨[(.int (cs.getD 9 0)), (.int (((11 : Int32) - ((wsum (fun j => cs.getD j 0) 10) % (11 : Int32))) % (11 : Int32)))], rfl, ?_⟩
    refine g_bipush C d2_87 (z := (48 : Int32)) rfl (q := 89) rfl ?_
    refine g_isub C d2_89 (q := 90) rfl ?_
    refine g_icmp_ne C d2_90 (q' := 97) (q := 93) (by decide) (by decide) rfl (fun hy => ?_) (fun hn => ?_)
    ·
      refine g_iconst C d2_97 (z := (0 : Int32)) rfl (q := 98) rfl ?_
      refine g_nreturn C d2_98 (by simp) (z := 0) rfl (Nat.le_refl _) (by decide) (by decide) ⟨rfl, _, rfl, Or.inr ⟨fun q => hy q.2.2, rfl⟩⟩
    ·
      refine g_iconst C d2_93 (z := (1 : Int32)) rfl (q := 94) rfl ?_
      refine g_goto C d2_94 (q := 98) (by decide) (by decide) ?_
      refine g_nreturn C d2_98 (by simp) (z := 1) rfl (Nat.le_refl _) (by decide) (by decide) ⟨rfl, _, rfl, Or.inl ⟨⟨hl, fun j hj => hd2 j (by omega), hn⟩, rfl⟩⟩
  | succ d ih =>
    have hi : i < 10 := by omega
    have hlt : Int32.ofNat i < 10 := by rw [Int32.lt_iff_toInt_lt, Int32.toInt_ofNat_of_lt (by omega)]; show (i : Int) < 10; omega
    refine g_iloadN C d2_19 (v := (Int32.ofNat i)) rfl (q := 20) rfl ?_
    refine g_bipush C d2_20 (z := (10 : Int32)) rfl (q := 22) rfl ?_
    refine g_icmp_ge C d2_22 (q' := 69) (q := 25) (by decide) (by decide) rfl (fun hy => absurd hlt hy) (fun hn => ?_)
    refine g_aloadN C d2_25 (v := (.ref a)) rfl rfl (q := 26) rfl ?_
    refine g_iloadN C d2_26 (v := (Int32.ofNat i)) rfl (q := 27) rfl ?_
    refine g_callV C (W := 0) (argsL := [(.int (Int32.ofNat i))]) (rest := []) (a := a) d2_27 (wd52 hw) (wd53 hw) (wd55 hw) (wd54 hw) (by decide) (nf_of C (wd55 hw)) S.exa (Ctr.bk (c_charAt l Z a0 G cz fm LG0 h0 n0 X0 a cs S i (by omega)) C (wd56 hw) (wd11 hw) (by decide) (by decide)) (by decide) (by decide) rfl (lenOf pd6 rfl) rfl rfl (q := 30) rfl (fun v1 h1 hQ1 => ?_)
    obtain ⟨rfl, rfl⟩ := hQ1
    refine ⟨[(.int (cs.getD i 0))], rfl, ?_⟩
    have st3 : ∀ v, storeLocals #[.val (.ref a), .val (.int (wsum (fun j => cs.getD j 0) i)), .val (.int (Int32.ofNat i)), s3] 3 (.int v) = some #[.val (.ref a), .val (.int (wsum (fun j => cs.getD j 0) i)), .val (.int (Int32.ofNat i)), .val (.int v)] := fun v => by rcases hs3 with rfl | ⟨x, rfl⟩ <;> rfl
    refine g_istoreN C d2_30 (L' := #[.val (.ref a), .val (.int (wsum (fun j => cs.getD j 0) i)), .val (.int (Int32.ofNat i)), .val (.int (cs.getD i 0))]) (st3 _) (q := 31) rfl ?_
    refine g_iloadN C d2_31 (v := (cs.getD i 0)) rfl (q := 32) rfl ?_
    refine g_bipush C d2_32 (z := (48 : Int32)) rfl (q := 34) rfl ?_
    refine g_icmp_lt C d2_34 (q' := 43) (q := 37) (by decide) (by decide) rfl (fun h1' => ?_) (fun h2' => ?_)
    ·
      refine g_iconst C d2_43 (z := (0 : Int32)) rfl (q := 44) rfl ?_
      refine g_nreturn C d2_44 (by simp) (z := 0) rfl (Nat.le_refl _) (by decide) (by decide) ⟨rfl, _, rfl, Or.inr ⟨fun q => (q.2.1 i hi).1 h1', rfl⟩⟩
    ·
      refine g_iloadN C d2_37 (v := (cs.getD i 0)) rfl (q := 38) rfl ?_
      refine g_bipush C d2_38 (z := (57 : Int32)) rfl (q := 40) rfl ?_
      refine g_icmp_le C d2_40 (q' := 45) (q := 43) (by decide) (by decide) rfl (fun h3' => ?_) (fun h4' => ?_)
      ·
        have hd3 : ∀ j, j < i + 1 → dg (cs.getD j 0) := fun j hj => by
          by_cases e : j = i
          · rw [e]; exact ⟨h2', h3'⟩
          · exact hd2 j (by omega)
        refine g_iloadN C d2_45 (v := (Int32.ofNat i)) rfl (q := 46) rfl ?_
        refine g_bipush C d2_46 (z := (9 : Int32)) rfl (q := 48) rfl ?_
        refine g_icmp_ge C d2_48 (q' := 63) (q := 51) (by decide) (by decide) rfl (fun g1 => ?_) (fun g2 => ?_)
        ·
          have q9 : ¬ i < 9 := by rw [Int32.lt_iff_toInt_lt, Int32.toInt_ofNat_of_lt (by omega)] at g1; have : (9 : Int32).toInt = 9 := rfl; omega
          refine g_iinc C d2_63 rfl (L' := #[.val (.ref a), .val (.int (wsum (fun j => cs.getD j 0) i)), .val (.int ((Int32.ofNat i) + (1 : Int32))), .val (.int (cs.getD i 0))]) rfl (q := 66) rfl ?_
          refine g_goto C d2_66 (q := 19) (by decide) (by decide) ?_
          rw [show Int32.ofNat i + 1 = Int32.ofNat (i + 1) from by rw [Int32.ofNat_add]; rfl, show wsum (fun j => cs.getD j 0) i = wsum (fun j => cs.getD j 0) (i + 1) from by simp only [wsum, if_neg q9]]
          exact ih (i + 1) _ (by omega) (by omega) hd3 (Or.inr ⟨_, rfl⟩)
        ·
          have q9 : i < 9 := by rw [Int32.lt_iff_toInt_lt, Int32.toInt_ofNat_of_lt (by omega)] at g2; have : (9 : Int32).toInt = 9 := rfl; omega
          refine g_iloadN C d2_51 (v := (wsum (fun j => cs.getD j 0) i)) rfl (q := 52) rfl ?_
          refine g_iloadN C d2_52 (v := (cs.getD i 0)) rfl (q := 53) rfl ?_
          refine g_bipush C d2_53 (z := (48 : Int32)) rfl (q := 55) rfl ?_
          refine g_isub C d2_55 (q := 56) rfl ?_
          refine g_bipush C d2_56 (z := (10 : Int32)) rfl (q := 58) rfl ?_
          refine g_iloadN C d2_58 (v := (Int32.ofNat i)) rfl (q := 59) rfl ?_
          refine g_isub C d2_59 (q := 60) rfl ?_
          refine g_imul C d2_60 (q := 61) rfl ?_
          refine g_iadd C d2_61 (q := 62) rfl ?_
          refine g_istoreN C d2_62 (L' := #[.val (.ref a), .val (.int ((wsum (fun j => cs.getD j 0) i) + (((cs.getD i 0) - (48 : Int32)) * ((10 : Int32) - (Int32.ofNat i))))), .val (.int (Int32.ofNat i)), .val (.int (cs.getD i 0))]) rfl (q := 63) rfl ?_
          refine g_iinc C d2_63 rfl (L' := #[.val (.ref a), .val (.int ((wsum (fun j => cs.getD j 0) i) + (((cs.getD i 0) - (48 : Int32)) * ((10 : Int32) - (Int32.ofNat i))))), .val (.int ((Int32.ofNat i) + (1 : Int32))), .val (.int (cs.getD i 0))]) rfl (q := 66) rfl ?_
          refine g_goto C d2_66 (q := 19) (by decide) (by decide) ?_
          rw [show Int32.ofNat i + 1 = Int32.ofNat (i + 1) from by rw [Int32.ofNat_add]; rfl, show wsum (fun j => cs.getD j 0) i + (cs.getD i 0 - 48) * (10 - Int32.ofNat i) = wsum (fun j => cs.getD j 0) (i + 1) from by simp only [wsum, if_pos q9]]
          exact ih (i + 1) _ (by omega) (by omega) hd3 (Or.inr ⟨_, rfl⟩)
      ·
        refine g_iconst C d2_43 (z := (0 : Int32)) rfl (q := 44) rfl ?_
        refine g_nreturn C d2_44 (by simp) (z := 0) rfl (Nat.le_refl _) (by decide) (by decide) ⟨rfl, _, rfl, Or.inr ⟨fun q => (q.2.1 i hi).2 h4', rfl⟩⟩
set_option maxRecDepth 65536 in
set_option maxHeartbeats 40000000 in
theorem c_valid (l : Launch) (Z : State) (a0 : Array Value) (G : Gl Z a0) (cz : Int32) (fm : Value) (LG0 : LG Z cz fm) (h0 : Heap) (n0 : Nat) (X0 : Ext Z.heap h0) (a : Addr) (cs : List Int32) (S : SL Z h0 a cs) :
    Ctr l Z (⟨"com/example/recordweave/recordweave/store/NhsNumber", "isValid", "(Ljava/lang/String;)Z"⟩ : MethodName) prog_2_method_2_code 4 (some .boolean) rmIv #[(.ref a)] h0 n0 (fun v h => h0 = h ∧ ∃ r, v = some (.int r) ∧ AN (NV cs) r) := by
  have hw := G.1
  refine Ctr.of (n1 := n0) #[.val (.ref a), .unset, .unset, .unset] (plainFor_of_name pn4) (fun m => by first | (simp [entryFrame, mkF, argsToLocals, Value.category, maxLocals]; done) | rfl) ?_
  intro p e s m below meth c C
  refine g_aloadN C d2_0 (v := (.ref a)) rfl rfl (q := 1) rfl ?_
  refine g_ifnullN C d2_1 (q := 4) rfl ?_
  refine g_aloadN C d2_4 (v := (.ref a)) rfl rfl (q := 5) rfl ?_
  refine g_callV C (W := 0) (argsL := []) (rest := []) (a := a) d2_5 (wd42 hw) (wd43 hw) (wd45 hw) (wd44 hw) (by decide) (nf_of C (wd45 hw)) S.exa (Ctr.bk (c_len l Z a0 G cz fm LG0 h0 n0 X0 a cs S) C (wd46 hw) (wd11 hw) (by decide) (by decide)) (by decide) (by decide) rfl (lenOf pd7 rfl) rfl rfl (q := 8) rfl (fun v1 h1 hQ1 => ?_)
  obtain ⟨rfl, rfl⟩ := hQ1
  refine ⟨[(.int (Int32.ofNat cs.length))], rfl, ?_⟩
  refine g_bipush C d2_8 (z := (10 : Int32)) rfl (q := 10) rfl ?_
  refine g_icmp_eq C d2_10 (q' := 15) (q := 13) (by decide) (by decide) rfl (fun hy => ?_) (fun hn => ?_)
  ·
    have hl : cs.length = 10 := by
      have e := congrArg Int32.toInt hy
      rw [Int32.toInt_ofNat_of_lt S.len] at e
      have : (10 : Int32).toInt = 10 := rfl
      omega
    refine g_iconst C d2_15 (z := (0 : Int32)) rfl (q := 16) rfl ?_
    refine g_istoreN C d2_16 (L' := #[.val (.ref a), .val (.int (0 : Int32)), .unset, .unset]) rfl (q := 17) rfl ?_
    refine g_iconst C d2_17 (z := (0 : Int32)) rfl (q := 18) rfl ?_
    refine g_istoreN C d2_18 (L' := #[.val (.ref a), .val (.int (0 : Int32)), .val (.int (0 : Int32)), .unset]) rfl (q := 19) rfl ?_
    exact loopV l Z a0 G cz fm LG0 h0 n0 X0 a cs S hl C 10 0 _ (by omega) (by omega) (fun j hj => absurd hj (by omega)) (Or.inl rfl)
  ·
    refine g_iconst C d2_13 (z := (0 : Int32)) rfl (q := 14) rfl ?_
    refine g_nreturn C d2_14 (by simp) (z := 0) rfl (Nat.le_refl _) (by decide) (by decide) ⟨rfl, _, rfl, Or.inr ⟨fun q => hn (by rw [q.1]; rfl), rfl⟩⟩
theorem dg_of {x : Int32} (h : dg x) : ∃ k : Fin 10, x - 48 = Int32.ofNat k.val := by
  have t : ∀ k : Fin 256, dg (Int32.ofNat k.val) → ∃ k' : Fin 10, Int32.ofNat k.val - 48 = Int32.ofNat k'.val := by unfold dg; decide +kernel
  have b : BY x := by
    obtain ⟨h1, h2⟩ := h
    rw [Int32.lt_iff_toInt_lt] at h1 h2
    have e0 : (48 : Int32).toInt = 48 := rfl
    have e1 : (57 : Int32).toInt = 57 := rfl
    have e2 : (0 : Int32).toInt = 0 := rfl
    have e3 : (255 : Int32).toInt = 255 := rfl
    exact ⟨fun q => by rw [Int32.lt_iff_toInt_lt] at q; omega, fun q => by rw [Int32.lt_iff_toInt_lt] at q; omega⟩
  obtain ⟨k, rfl⟩ := byte_of b
  exact t k h
theorem md1 : ∀ w : Fin 600, Int32.ofNat w.val % 11 = Int32.ofNat (w.val % 11) := by decide +kernel
theorem md2 : ∀ w : Fin 600, (11 - Int32.ofNat w.val % 11) % 11 = Int32.ofNat ((11 - w.val % 11) % 11) := by decide +kernel
theorem md3 : ∀ u v : Fin 11, Int32.ofNat u.val = Int32.ofNat v.val → u = v := by decide +kernel
theorem mulN (k n : Nat) : Int32.ofNat n * Int32.ofNat k = Int32.ofNat (n * k) := (Int32.ofNat_mul n k).symm
theorem addN (k n : Nat) : Int32.ofNat n + Int32.ofNat k = Int32.ofNat (n + k) := (Int32.ofNat_add n k).symm
theorem ext255 (x : Int32) : BY ((x &&& (255 : Int32)).toUInt32.toUInt16.toUInt32.toInt32) := by
  have t : ∀ k : Fin 256, BY ((Int32.ofNat k.val).toUInt32.toUInt16.toUInt32.toInt32) := by decide +kernel
  have h : (x &&& 255).toBitVec.toNat < 256 := by
    simp only [Int32.toBitVec_and, BitVec.toNat_and]
    exact Nat.lt_succ_of_le Nat.and_le_right
  have e : (x &&& 255) = Int32.ofNat (x &&& 255).toBitVec.toNat := by
    apply Int32.toBitVec_inj.mp
    show _ = BitVec.ofNat 32 _
    rw [BitVec.ofNat_toNat]; simp
  rw [e]
  exact t ⟨_, h⟩
theorem nv10 (d0 d1 d2 d3 d4 d5 d6 d7 d8 d9 : Int32) (g0 : dg d0) (g1 : dg d1) (g2 : dg d2) (g3 : dg d3) (g4 : dg d4) (g5 : dg d5) (g6 : dg d6) (g7 : dg d7) (g8 : dg d8) (g9 : dg d9) : NV [d0, d1, d2, d3, d4, d5, d6, d7, d8, d9] ↔ (10 * (d0 - 48) + 9 * (d1 - 48) + 8 * (d2 - 48) + 7 * (d3 - 48) + 6 * (d4 - 48) + 5 * (d5 - 48) + 4 * (d6 - 48) + 3 * (d7 - 48) + 2 * (d8 - 48) + (d9 - 48)) % 11 = 0 := by
  obtain ⟨k0, f0⟩ := dg_of g0
  obtain ⟨k1, f1⟩ := dg_of g1
  obtain ⟨k2, f2⟩ := dg_of g2
  obtain ⟨k3, f3⟩ := dg_of g3
  obtain ⟨k4, f4⟩ := dg_of g4
  obtain ⟨k5, f5⟩ := dg_of g5
  obtain ⟨k6, f6⟩ := dg_of g6
  obtain ⟨k7, f7⟩ := dg_of g7
  obtain ⟨k8, f8⟩ := dg_of g8
  obtain ⟨k9, f9⟩ := dg_of g9
  have e1 : 10 * (d0 - 48) + 9 * (d1 - 48) + 8 * (d2 - 48) + 7 * (d3 - 48) + 6 * (d4 - 48) + 5 * (d5 - 48) + 4 * (d6 - 48) + 3 * (d7 - 48) + 2 * (d8 - 48) + (d9 - 48) = Int32.ofNat (10 * k0.val + 9 * k1.val + 8 * k2.val + 7 * k3.val + 6 * k4.val + 5 * k5.val + 4 * k6.val + 3 * k7.val + 2 * k8.val + k9.val) := by
    rw [f0, f1, f2, f3, f4, f5, f6, f7, f8, f9]
    show Int32.ofNat 10 * Int32.ofNat k0.val + Int32.ofNat 9 * Int32.ofNat k1.val + Int32.ofNat 8 * Int32.ofNat k2.val + Int32.ofNat 7 * Int32.ofNat k3.val + Int32.ofNat 6 * Int32.ofNat k4.val + Int32.ofNat 5 * Int32.ofNat k5.val + Int32.ofNat 4 * Int32.ofNat k6.val + Int32.ofNat 3 * Int32.ofNat k7.val + Int32.ofNat 2 * Int32.ofNat k8.val + Int32.ofNat k9.val = _
    simp only [mulN, addN]
  have e2 : wsum (fun j => [d0, d1, d2, d3, d4, d5, d6, d7, d8, d9].getD j 0) 10 = Int32.ofNat (10 * k0.val + 9 * k1.val + 8 * k2.val + 7 * k3.val + 6 * k4.val + 5 * k5.val + 4 * k6.val + 3 * k7.val + 2 * k8.val) := by
    show (((((((((Int32.ofNat 0 + (d0 - 48) * Int32.ofNat 10) + (d1 - 48) * Int32.ofNat 9) + (d2 - 48) * Int32.ofNat 8) + (d3 - 48) * Int32.ofNat 7) + (d4 - 48) * Int32.ofNat 6) + (d5 - 48) * Int32.ofNat 5) + (d6 - 48) * Int32.ofNat 4) + (d7 - 48) * Int32.ofNat 3) + (d8 - 48) * Int32.ofNat 2) = _
    rw [f0, f1, f2, f3, f4, f5, f6, f7, f8]
    show (((((((((Int32.ofNat 0 + Int32.ofNat k0.val * Int32.ofNat 10) + Int32.ofNat k1.val * Int32.ofNat 9) + Int32.ofNat k2.val * Int32.ofNat 8) + Int32.ofNat k3.val * Int32.ofNat 7) + Int32.ofNat k4.val * Int32.ofNat 6) + Int32.ofNat k5.val * Int32.ofNat 5) + Int32.ofNat k6.val * Int32.ofNat 4) + Int32.ofNat k7.val * Int32.ofNat 3) + Int32.ofNat k8.val * Int32.ofNat 2) = _
    simp only [mulN, addN]
    congr 1
    omega
  have e3 : ([d0, d1, d2, d3, d4, d5, d6, d7, d8, d9].getD 9 0 : Int32) - 48 = Int32.ofNat k9.val := f9
  have hW : (10 * k0.val + 9 * k1.val + 8 * k2.val + 7 * k3.val + 6 * k4.val + 5 * k5.val + 4 * k6.val + 3 * k7.val + 2 * k8.val) + k9.val < 600 := by have := k0.isLt; have := k1.isLt; have := k2.isLt; have := k3.isLt; have := k4.isLt; have := k5.isLt; have := k6.isLt; have := k7.isLt; have := k8.isLt; have := k9.isLt; omega
  generalize (10 * k0.val + 9 * k1.val + 8 * k2.val + 7 * k3.val + 6 * k4.val + 5 * k5.val + 4 * k6.val + 3 * k7.val + 2 * k8.val) = W at e1 e2 hW
  constructor
  · intro q
    have q3 := q.2.2
    rw [e2, e3, md2 ⟨W, by omega⟩] at q3
    have q4 := congrArg Fin.val (md3 ⟨(11 - W % 11) % 11, by omega⟩ ⟨k9.val, by omega⟩ q3)
    simp only at q4
    rw [e1, md1 ⟨W + k9.val, hW⟩]
    show Int32.ofNat ((W + k9.val) % 11) = 0
    rw [show (W + k9.val) % 11 = 0 from by omega]; rfl
  · intro q
    rw [e1, md1 ⟨W + k9.val, hW⟩] at q
    have q4 := congrArg Fin.val (md3 ⟨(W + k9.val) % 11, by omega⟩ ⟨0, by omega⟩ q)
    simp only at q4
    refine ⟨rfl, fun j hj => ?_, ?_⟩
    · obtain rfl | rfl | rfl | rfl | rfl | rfl | rfl | rfl | rfl | rfl : j = 0 ∨ j = 1 ∨ j = 2 ∨ j = 3 ∨ j = 4 ∨ j = 5 ∨ j = 6 ∨ j = 7 ∨ j = 8 ∨ j = 9 := by omega
      · exact g0
      · exact g1
      · exact g2
      · exact g3
      · exact g4
      · exact g5
      · exact g6
      · exact g7
      · exact g8
      · exact g9
    · rw [e2, e3, md2 ⟨W, by omega⟩]
      show Int32.ofNat ((11 - W % 11) % 11) = _
      rw [show (11 - W % 11) % 11 = k9.val from by have := k9.isLt; omega]
set_option maxRecDepth 65536 in
set_option maxHeartbeats 40000000 in
theorem tailN {p : Program} {e : Env} {s0 : State} {vm0 : Vm} {m : MethodId} {args : Array Value} {below : List Frame} {meth : Method} {c : Code} (l : Launch) (Z : State) (a0 : Array Value) (G : Gl Z a0) (cz : Int32) (fm : Value) (LG0 : LG Z cz fm) (h0 : Heap) (n0 : Nat) (X0 : Ext Z.heap h0) (la lb : Int64) (lc d0 d1 d2 d3 d4 d5 d6 d7 d8 d9 sel ex r : Int32) (s19 s20 : Slot) (C : Cx p (s0.setVm vm0) m meth c Z "com/example/recordweave/recordweave/store/NhsNumberIsValidPinLaw" "law" code 21 (some .boolean)) (Sw : Sn s0 vm0 h0) (hr : r = 0) :
    Go p l e room_1 (s0.setVm vm0) m args below meth c (FinW s0 below room_1 n0 (fun v vm h => v = some (.int 1))) n0 h0 6 64 587 #[.val (.long la), .second, .val (.long lb), .second, .val (.int lc), .val (.int d0), .val (.int d1), .val (.int d2), .val (.int d3), .val (.int d4), .val (.int d5), .val (.int d6), .val (.int d7), .val (.int d8), .val (.int d9), .val (.int sel), .val (.int ex), .val .null, .val (.int r), s19, s20] [] := by
  have hw := G.1
  refine g_aload C at_587 (v := .null) rfl rfl (q := 589) rfl ?_
  subst hr
  refine g_callS C (W := 0) (argsL := [.null]) (rest := []) at_589 (wd5 hw) (wd6 hw) (wd7 hw) (wd8 hw) (by decide) (Ctr.bk (c_validN l Z a0 G h0 n0) C (wd8 hw) (wd7 hw) (by decide) (by decide)) (by decide) (by decide) rfl (lenOf pd8 rfl) rfl rfl (q := 592) rfl (fun v1 h1 hQ1 => ?_)
  obtain ⟨rfl, rfl⟩ := hQ1
  refine ⟨[(.int 0)], rfl, ?_⟩
  refine g_iload C at_592 (v := 0) rfl (q := 594) rfl ?_
  refine g_icmp_ne C at_594 (q' := 601) (q := 597) (by decide) (by decide) rfl (fun hy => absurd rfl hy) (fun hn => ?_)
  refine g_iconst C at_597 (z := (1 : Int32)) rfl (q := 598) rfl ?_
  refine g_goto C at_598 (q := 602) (by decide) (by decide) ?_
  exact g_nreturnW C Sw at_602 (by simp) (z := 1) rfl (Nat.le_refl _) (by decide) (by decide) (fun vm' hW => rfl)
set_option maxRecDepth 65536 in
set_option maxHeartbeats 40000000 in
theorem tailS {p : Program} {e : Env} {s0 : State} {vm0 : Vm} {m : MethodId} {args : Array Value} {below : List Frame} {meth : Method} {c : Code} (l : Launch) (Z : State) (a0 : Array Value) (G : Gl Z a0) (cz : Int32) (fm : Value) (LG0 : LG Z cz fm) (h0 : Heap) (n0 : Nat) (X0 : Ext Z.heap h0) (la lb : Int64) (lc d0 d1 d2 d3 d4 d5 d6 d7 d8 d9 sel ex r : Int32) (s19 s20 : Slot) (C : Cx p (s0.setVm vm0) m meth c Z "com/example/recordweave/recordweave/store/NhsNumberIsValidPinLaw" "law" code 21 (some .boolean)) (Sw : Sn s0 vm0 h0) (a : Addr) (cs : List Int32) (S : SL Z h0 a cs) (hr : AN (NV cs) r) :
    Go p l e room_1 (s0.setVm vm0) m args below meth c (FinW s0 below room_1 n0 (fun v vm h => v = some (.int 1))) n0 h0 6 64 587 #[.val (.long la), .second, .val (.long lb), .second, .val (.int lc), .val (.int d0), .val (.int d1), .val (.int d2), .val (.int d3), .val (.int d4), .val (.int d5), .val (.int d6), .val (.int d7), .val (.int d8), .val (.int d9), .val (.int sel), .val (.int ex), .val (.ref a), .val (.int r), s19, s20] [] := by
  have hw := G.1
  refine g_aload C at_587 (v := (.ref a)) rfl rfl (q := 589) rfl ?_
  refine g_callS C (W := 0) (argsL := [(.ref a)]) (rest := []) at_589 (wd5 hw) (wd6 hw) (wd7 hw) (wd8 hw) (by decide) (Ctr.bk (c_valid l Z a0 G cz fm LG0 h0 n0 X0 a cs S) C (wd8 hw) (wd7 hw) (by decide) (by decide)) (by decide) (by decide) rfl (lenOf pd8 rfl) rfl rfl (q := 592) rfl (fun v1 h1 hQ1 => ?_)
  obtain ⟨rfl, r', rfl, hA⟩ := hQ1
  refine ⟨[(.int r')], rfl, ?_⟩
  obtain rfl := AN.uniq hr hA
  refine g_iload C at_592 (v := r) rfl (q := 594) rfl ?_
  refine g_icmp_ne C at_594 (q' := 601) (q := 597) (by decide) (by decide) rfl (fun hy => absurd rfl hy) (fun hn => ?_)
  refine g_iconst C at_597 (z := (1 : Int32)) rfl (q := 598) rfl ?_
  refine g_goto C at_598 (q := 602) (by decide) (by decide) ?_
  exact g_nreturnW C Sw at_602 (by simp) (z := 1) rfl (Nat.le_refl _) (by decide) (by decide) (fun vm' hW => rfl)
set_option maxRecDepth 65536 in
set_option maxHeartbeats 40000000 in
theorem c_law (l : Launch) (Z : State) (a0 : Array Value) (G : Gl Z a0) (cz : Int32) (fm : Value) (LG0 : LG Z cz fm) (la lb : Int64) (lc : Int32) (h0 : Heap) (n0 : Nat) (Z0 : n0 ≤ h0.size) (X0 : Ext Z.heap h0) :
    CtrW l Z Jvm.Pilot.@@N@@.x code maxLocals ret room_1 #[(.long la), (.long lb), (.int lc)] h0 n0 (fun vm => IB Z vm []) (fun v vm h => v = some (.int 1)) := by
  have hw := G.1
  refine CtrW.of (n1 := n0) #[.val (.long la), .second, .val (.long lb), .second, .val (.int lc), .unset, .unset, .unset, .unset, .unset, .unset, .unset, .unset, .unset, .unset, .unset, .unset, .unset, .unset, .unset, .unset] (plainFor_of_name pn3) (fun m => by first | (simp [entryFrame, mkF, argsToLocals, Value.category, maxLocals]; done) | rfl) ?_
  intro p e s0 vm0 m below meth c C hs0 hP0 Sw
  have C : Cx p (s0.setVm vm0) m meth c Z "com/example/recordweave/recordweave/store/NhsNumberIsValidPinLaw" "law" code 21 (some .boolean) := C
  refine g_lloadN C at_0 (v := la) rfl (q := 1) rfl ?_
  refine g_iconst C at_1 (z := (0 : Int32)) rfl (q := 2) rfl ?_
  refine g_lloadN C at_2 (v := lb) rfl (q := 3) rfl ?_
  refine g_bipush C at_3 (z := (16 : Int32)) rfl (q := 5) rfl ?_
  refine g_callS C (W := 0) (argsL := [(.long la), (.int (0 : Int32)), (.long lb), (.int (16 : Int32))]) (rest := []) at_5 (wd0 hw) (wd1 hw) (wd2 hw) (wd3 hw) (by decide) (Ctr.bk (c_pick l Z a0 G _ _ _ _ h0 n0) C (wd3 hw) (wd2 hw) (by decide) (by decide)) (by decide) (by decide) rfl (lenOf pd9 rfl) rfl rfl (q := 8) rfl (fun v1 h1 hQ1 => ?_)
  obtain ⟨rfl, d0, rfl, q0⟩ := hQ1
  refine ⟨[(.int d0)], rfl, ?_⟩
  refine g_istore C at_8 (L' := #[.val (.long la), .second, .val (.long lb), .second, .val (.int lc), .val (.int d0), .unset, .unset, .unset, .unset, .unset, .unset, .unset, .unset, .unset, .unset, .unset, .unset, .unset, .unset, .unset]) rfl (q := 10) rfl ?_
  refine g_lloadN C at_10 (v := la) rfl (q := 11) rfl ?_
  refine g_bipush C at_11 (z := (8 : Int32)) rfl (q := 13) rfl ?_
  refine g_lloadN C at_13 (v := lb) rfl (q := 14) rfl ?_
  refine g_bipush C at_14 (z := (17 : Int32)) rfl (q := 16) rfl ?_
  refine g_callS C (W := 0) (argsL := [(.long la), (.int (8 : Int32)), (.long lb), (.int (17 : Int32))]) (rest := []) at_16 (wd0 hw) (wd1 hw) (wd2 hw) (wd3 hw) (by decide) (Ctr.bk (c_pick l Z a0 G _ _ _ _ h0 n0) C (wd3 hw) (wd2 hw) (by decide) (by decide)) (by decide) (by decide) rfl (lenOf pd9 rfl) rfl rfl (q := 19) rfl (fun v1 h1 hQ1 => ?_)
  obtain ⟨rfl, d1, rfl, q1⟩ := hQ1
  refine ⟨[(.int d1)], rfl, ?_⟩
  refine g_istore C at_19 (L' := #[.val (.long la), .second, .val (.long lb), .second, .val (.int lc), .val (.int d0), .val (.int d1), .unset, .unset, .unset, .unset, .unset, .unset, .unset, .unset, .unset, .unset, .unset, .unset, .unset, .unset]) rfl (q := 21) rfl ?_
  refine g_lloadN C at_21 (v := la) rfl (q := 22) rfl ?_
  refine g_bipush C at_22 (z := (16 : Int32)) rfl (q := 24) rfl ?_
  refine g_lloadN C at_24 (v := lb) rfl (q := 25) rfl ?_
  refine g_bipush C at_25 (z := (18 : Int32)) rfl (q := 27) rfl ?_
  refine g_callS C (W := 0) (argsL := [(.long la), (.int (16 : Int32)), (.long lb), (.int (18 : Int32))]) (rest := []) at_27 (wd0 hw) (wd1 hw) (wd2 hw) (wd3 hw) (by decide) (Ctr.bk (c_pick l Z a0 G _ _ _ _ h0 n0) C (wd3 hw) (wd2 hw) (by decide) (by decide)) (by decide) (by decide) rfl (lenOf pd9 rfl) rfl rfl (q := 30) rfl (fun v1 h1 hQ1 => ?_)
  obtain ⟨rfl, d2, rfl, q2⟩ := hQ1
  refine ⟨[(.int d2)], rfl, ?_⟩
  refine g_istore C at_30 (L' := #[.val (.long la), .second, .val (.long lb), .second, .val (.int lc), .val (.int d0), .val (.int d1), .val (.int d2), .unset, .unset, .unset, .unset, .unset, .unset, .unset, .unset, .unset, .unset, .unset, .unset, .unset]) rfl (q := 32) rfl ?_
  refine g_lloadN C at_32 (v := la) rfl (q := 33) rfl ?_
  refine g_bipush C at_33 (z := (24 : Int32)) rfl (q := 35) rfl ?_
  refine g_lloadN C at_35 (v := lb) rfl (q := 36) rfl ?_
  refine g_bipush C at_36 (z := (19 : Int32)) rfl (q := 38) rfl ?_
  refine g_callS C (W := 0) (argsL := [(.long la), (.int (24 : Int32)), (.long lb), (.int (19 : Int32))]) (rest := []) at_38 (wd0 hw) (wd1 hw) (wd2 hw) (wd3 hw) (by decide) (Ctr.bk (c_pick l Z a0 G _ _ _ _ h0 n0) C (wd3 hw) (wd2 hw) (by decide) (by decide)) (by decide) (by decide) rfl (lenOf pd9 rfl) rfl rfl (q := 41) rfl (fun v1 h1 hQ1 => ?_)
  obtain ⟨rfl, d3, rfl, q3⟩ := hQ1
  refine ⟨[(.int d3)], rfl, ?_⟩
  refine g_istore C at_41 (L' := #[.val (.long la), .second, .val (.long lb), .second, .val (.int lc), .val (.int d0), .val (.int d1), .val (.int d2), .val (.int d3), .unset, .unset, .unset, .unset, .unset, .unset, .unset, .unset, .unset, .unset, .unset, .unset]) rfl (q := 43) rfl ?_
  refine g_lloadN C at_43 (v := la) rfl (q := 44) rfl ?_
  refine g_bipush C at_44 (z := (32 : Int32)) rfl (q := 46) rfl ?_
  refine g_lloadN C at_46 (v := lb) rfl (q := 47) rfl ?_
  refine g_bipush C at_47 (z := (20 : Int32)) rfl (q := 49) rfl ?_
  refine g_callS C (W := 0) (argsL := [(.long la), (.int (32 : Int32)), (.long lb), (.int (20 : Int32))]) (rest := []) at_49 (wd0 hw) (wd1 hw) (wd2 hw) (wd3 hw) (by decide) (Ctr.bk (c_pick l Z a0 G _ _ _ _ h0 n0) C (wd3 hw) (wd2 hw) (by decide) (by decide)) (by decide) (by decide) rfl (lenOf pd9 rfl) rfl rfl (q := 52) rfl (fun v1 h1 hQ1 => ?_)
  obtain ⟨rfl, d4, rfl, q4⟩ := hQ1
  refine ⟨[(.int d4)], rfl, ?_⟩
  refine g_istore C at_52 (L' := #[.val (.long la), .second, .val (.long lb), .second, .val (.int lc), .val (.int d0), .val (.int d1), .val (.int d2), .val (.int d3), .val (.int d4), .unset, .unset, .unset, .unset, .unset, .unset, .unset, .unset, .unset, .unset, .unset]) rfl (q := 54) rfl ?_
  refine g_lloadN C at_54 (v := la) rfl (q := 55) rfl ?_
  refine g_bipush C at_55 (z := (40 : Int32)) rfl (q := 57) rfl ?_
  refine g_lloadN C at_57 (v := lb) rfl (q := 58) rfl ?_
  refine g_bipush C at_58 (z := (21 : Int32)) rfl (q := 60) rfl ?_
  refine g_callS C (W := 0) (argsL := [(.long la), (.int (40 : Int32)), (.long lb), (.int (21 : Int32))]) (rest := []) at_60 (wd0 hw) (wd1 hw) (wd2 hw) (wd3 hw) (by decide) (Ctr.bk (c_pick l Z a0 G _ _ _ _ h0 n0) C (wd3 hw) (wd2 hw) (by decide) (by decide)) (by decide) (by decide) rfl (lenOf pd9 rfl) rfl rfl (q := 63) rfl (fun v1 h1 hQ1 => ?_)
  obtain ⟨rfl, d5, rfl, q5⟩ := hQ1
  refine ⟨[(.int d5)], rfl, ?_⟩
  refine g_istore C at_63 (L' := #[.val (.long la), .second, .val (.long lb), .second, .val (.int lc), .val (.int d0), .val (.int d1), .val (.int d2), .val (.int d3), .val (.int d4), .val (.int d5), .unset, .unset, .unset, .unset, .unset, .unset, .unset, .unset, .unset, .unset]) rfl (q := 65) rfl ?_
  refine g_lloadN C at_65 (v := la) rfl (q := 66) rfl ?_
  refine g_bipush C at_66 (z := (48 : Int32)) rfl (q := 68) rfl ?_
  refine g_lloadN C at_68 (v := lb) rfl (q := 69) rfl ?_
  refine g_bipush C at_69 (z := (22 : Int32)) rfl (q := 71) rfl ?_
  refine g_callS C (W := 0) (argsL := [(.long la), (.int (48 : Int32)), (.long lb), (.int (22 : Int32))]) (rest := []) at_71 (wd0 hw) (wd1 hw) (wd2 hw) (wd3 hw) (by decide) (Ctr.bk (c_pick l Z a0 G _ _ _ _ h0 n0) C (wd3 hw) (wd2 hw) (by decide) (by decide)) (by decide) (by decide) rfl (lenOf pd9 rfl) rfl rfl (q := 74) rfl (fun v1 h1 hQ1 => ?_)
  obtain ⟨rfl, d6, rfl, q6⟩ := hQ1
  refine ⟨[(.int d6)], rfl, ?_⟩
  refine g_istore C at_74 (L' := #[.val (.long la), .second, .val (.long lb), .second, .val (.int lc), .val (.int d0), .val (.int d1), .val (.int d2), .val (.int d3), .val (.int d4), .val (.int d5), .val (.int d6), .unset, .unset, .unset, .unset, .unset, .unset, .unset, .unset, .unset]) rfl (q := 76) rfl ?_
  refine g_lloadN C at_76 (v := la) rfl (q := 77) rfl ?_
  refine g_bipush C at_77 (z := (56 : Int32)) rfl (q := 79) rfl ?_
  refine g_lloadN C at_79 (v := lb) rfl (q := 80) rfl ?_
  refine g_bipush C at_80 (z := (23 : Int32)) rfl (q := 82) rfl ?_
  refine g_callS C (W := 0) (argsL := [(.long la), (.int (56 : Int32)), (.long lb), (.int (23 : Int32))]) (rest := []) at_82 (wd0 hw) (wd1 hw) (wd2 hw) (wd3 hw) (by decide) (Ctr.bk (c_pick l Z a0 G _ _ _ _ h0 n0) C (wd3 hw) (wd2 hw) (by decide) (by decide)) (by decide) (by decide) rfl (lenOf pd9 rfl) rfl rfl (q := 85) rfl (fun v1 h1 hQ1 => ?_)
  obtain ⟨rfl, d7, rfl, q7⟩ := hQ1
  refine ⟨[(.int d7)], rfl, ?_⟩
  refine g_istore C at_85 (L' := #[.val (.long la), .second, .val (.long lb), .second, .val (.int lc), .val (.int d0), .val (.int d1), .val (.int d2), .val (.int d3), .val (.int d4), .val (.int d5), .val (.int d6), .val (.int d7), .unset, .unset, .unset, .unset, .unset, .unset, .unset, .unset]) rfl (q := 87) rfl ?_
  refine g_lloadN C at_87 (v := lb) rfl (q := 88) rfl ?_
  refine g_iconst C at_88 (z := (0 : Int32)) rfl (q := 89) rfl ?_
  refine g_lloadN C at_89 (v := lb) rfl (q := 90) rfl ?_
  refine g_bipush C at_90 (z := (24 : Int32)) rfl (q := 92) rfl ?_
  refine g_callS C (W := 0) (argsL := [(.long lb), (.int (0 : Int32)), (.long lb), (.int (24 : Int32))]) (rest := []) at_92 (wd0 hw) (wd1 hw) (wd2 hw) (wd3 hw) (by decide) (Ctr.bk (c_pick l Z a0 G _ _ _ _ h0 n0) C (wd3 hw) (wd2 hw) (by decide) (by decide)) (by decide) (by decide) rfl (lenOf pd9 rfl) rfl rfl (q := 95) rfl (fun v1 h1 hQ1 => ?_)
  obtain ⟨rfl, d8, rfl, q8⟩ := hQ1
  refine ⟨[(.int d8)], rfl, ?_⟩
  refine g_istore C at_95 (L' := #[.val (.long la), .second, .val (.long lb), .second, .val (.int lc), .val (.int d0), .val (.int d1), .val (.int d2), .val (.int d3), .val (.int d4), .val (.int d5), .val (.int d6), .val (.int d7), .val (.int d8), .unset, .unset, .unset, .unset, .unset, .unset, .unset]) rfl (q := 97) rfl ?_
  refine g_lloadN C at_97 (v := lb) rfl (q := 98) rfl ?_
  refine g_bipush C at_98 (z := (8 : Int32)) rfl (q := 100) rfl ?_
  refine g_lloadN C at_100 (v := lb) rfl (q := 101) rfl ?_
  refine g_bipush C at_101 (z := (25 : Int32)) rfl (q := 103) rfl ?_
  refine g_callS C (W := 0) (argsL := [(.long lb), (.int (8 : Int32)), (.long lb), (.int (25 : Int32))]) (rest := []) at_103 (wd0 hw) (wd1 hw) (wd2 hw) (wd3 hw) (by decide) (Ctr.bk (c_pick l Z a0 G _ _ _ _ h0 n0) C (wd3 hw) (wd2 hw) (by decide) (by decide)) (by decide) (by decide) rfl (lenOf pd9 rfl) rfl rfl (q := 106) rfl (fun v1 h1 hQ1 => ?_)
  obtain ⟨rfl, d9, rfl, q9⟩ := hQ1
  refine ⟨[(.int d9)], rfl, ?_⟩
  refine g_istore C at_106 (L' := #[.val (.long la), .second, .val (.long lb), .second, .val (.int lc), .val (.int d0), .val (.int d1), .val (.int d2), .val (.int d3), .val (.int d4), .val (.int d5), .val (.int d6), .val (.int d7), .val (.int d8), .val (.int d9), .unset, .unset, .unset, .unset, .unset, .unset]) rfl (q := 108) rfl ?_
  refine g_iload C at_108 (v := lc) rfl (q := 110) rfl ?_
  refine g_bipush C at_110 (z := (7 : Int32)) rfl (q := 112) rfl ?_
  refine g_iand C at_112 (q := 113) rfl ?_
  generalize (lc &&& (7 : Int32)) = sel
  refine g_istore C at_113 (L' := #[.val (.long la), .second, .val (.long lb), .second, .val (.int lc), .val (.int d0), .val (.int d1), .val (.int d2), .val (.int d3), .val (.int d4), .val (.int d5), .val (.int d6), .val (.int d7), .val (.int d8), .val (.int d9), .val (.int sel), .unset, .unset, .unset, .unset, .unset]) rfl (q := 115) rfl ?_
  refine g_iload C at_115 (v := lc) rfl (q := 117) rfl ?_
  refine g_bipush C at_117 (z := (8 : Int32)) rfl (q := 119) rfl ?_
  refine g_iushr C at_119 (q := 120) rfl ?_
  refine g_sipush C at_120 (z := (255 : Int32)) rfl (q := 123) rfl ?_
  refine g_iand C at_123 (q := 124) rfl ?_
  refine g_i2c C at_124 (q := 125) rfl ?_
  obtain ⟨ex, hex, qex⟩ : ∃ y, y = (((XT.ushr lc (8 : Int32)) &&& (255 : Int32)).toUInt32.toUInt16.toUInt32.toInt32) ∧ BY y := ⟨_, rfl, ext255 _⟩
  rw [← hex]
  refine g_istore C at_125 (L' := #[.val (.long la), .second, .val (.long lb), .second, .val (.int lc), .val (.int d0), .val (.int d1), .val (.int d2), .val (.int d3), .val (.int d4), .val (.int d5), .val (.int d6), .val (.int d7), .val (.int d8), .val (.int d9), .val (.int sel), .val (.int ex), .unset, .unset, .unset, .unset]) rfl (q := 127) rfl ?_
  refine g_iload C at_127 (v := sel) rfl (q := 129) rfl ?_
  refine g_if_ne C at_129 (q' := 141) (q := 132) (by decide) (by decide) rfl (fun z0 => ?_) (fun z0 => ?_)
  ·
    refine g_iload C at_141 (v := sel) rfl (q := 143) rfl ?_
    refine g_iconst C at_143 (z := (1 : Int32)) rfl (q := 144) rfl ?_
    refine g_icmp_ne C at_144 (q' := 165) (q := 147) (by decide) (by decide) rfl (fun z1 => ?_) (fun z1 => ?_)
    ·
      refine g_iload C at_165 (v := sel) rfl (q := 167) rfl ?_
      refine g_iconst C at_167 (z := (2 : Int32)) rfl (q := 168) rfl ?_
      refine g_icmp_ne C at_168 (q' := 238) (q := 171) (by decide) (by decide) rfl (fun z2 => ?_) (fun z2 => ?_)
      ·
        refine g_iload C at_238 (v := sel) rfl (q := 240) rfl ?_
        refine g_iconst C at_240 (z := (3 : Int32)) rfl (q := 241) rfl ?_
        refine g_icmp_ne C at_241 (q' := 323) (q := 244) (by decide) (by decide) rfl (fun z3 => ?_) (fun z3 => ?_)
        ·
          refine g_new C at_323 (wd9 hw) (wd10 hw) (wd11 hw) (by decide) (by decide) (q := 326) rfl (fun sq hnq qnq Enq Anq Dnq => ?_)
          refine g_dup C at_326 rfl (q := 327) rfl ?_
          refine g_bipush C at_327 (z := (10 : Int32)) rfl (q := 329) rfl ?_
          refine g_newarray C at_329 (wd12 hw) (by decide) (cap := 10) (by decide) (by decide) (by decide) (by decide) (q := 331) rfl (fun bq hbq kbq qbq Ebq Abq => ?_)
          have Bq : Av Z hbq bq .char 10 (fun _ => .int 0) := Av.new Abq (by decide)
          have Xq := Ext.tr (Ext.tr X0 Enq) Ebq
          have gsq : n0 ≤ sq := by rw [qnq]; exact Z0
          have gbq : n0 ≤ bq := by rw [qbq]; exact Nat.le_trans Z0 Enq.1
          have Exq := Anq.ext Ebq
          have nsbq : sq ≠ bq := by rw [qbq]; exact Nat.ne_of_lt Anq.lt
          have FVq := (Dnq (Or.inr (wd38 hw)) (ty := .array .byte) (by decide)).ext Ebq
          have FCq := (Dnq (Or.inr (wd36 hw)) (ty := .byte) (by decide)).ext Ebq
          have Kq := Ext.kp (Ext.tr Enq Ebq) []
          have gzq : Z.heap.size ≤ bq := by rw [qbq]; exact Nat.le_trans X0.1 Enq.1
          have g0q : h0.size ≤ bq := by rw [qbq]; exact Enq.1
          refine g_dup C at_331 rfl (q := 332) rfl ?_
          refine g_iconst C at_332 (z := (0 : Int32)) rfl (q := 333) rfl ?_
          refine g_iload C at_333 (v := d0) rfl (q := 335) rfl ?_
          refine g_castore C at_335 (i := 0) Bq (by decide) rfl gbq (q := 336) rfl (fun hq_0 Wq_0 Bq => ?_)
          have Exq := Exq.wr Wq_0
          have FVq := FVq.other Wq_0 (Or.inl nsbq)
          have FCq := FCq.other Wq_0 (Or.inl nsbq)
          have Xq := Ext.wr Xq Wq_0 gzq
          have Kq := Kq.wr Wq_0 (Or.inr g0q)
          refine g_dup C at_336 rfl (q := 337) rfl ?_
          refine g_iconst C at_337 (z := (1 : Int32)) rfl (q := 338) rfl ?_
          refine g_iload C at_338 (v := d1) rfl (q := 340) rfl ?_
          refine g_castore C at_340 (i := 1) Bq (by decide) rfl gbq (q := 341) rfl (fun hq_1 Wq_1 Bq => ?_)
          have Exq := Exq.wr Wq_1
          have FVq := FVq.other Wq_1 (Or.inl nsbq)
          have FCq := FCq.other Wq_1 (Or.inl nsbq)
          have Xq := Ext.wr Xq Wq_1 gzq
          have Kq := Kq.wr Wq_1 (Or.inr g0q)
          refine g_dup C at_341 rfl (q := 342) rfl ?_
          refine g_iconst C at_342 (z := (2 : Int32)) rfl (q := 343) rfl ?_
          refine g_iload C at_343 (v := d2) rfl (q := 345) rfl ?_
          refine g_castore C at_345 (i := 2) Bq (by decide) rfl gbq (q := 346) rfl (fun hq_2 Wq_2 Bq => ?_)
          have Exq := Exq.wr Wq_2
          have FVq := FVq.other Wq_2 (Or.inl nsbq)
          have FCq := FCq.other Wq_2 (Or.inl nsbq)
          have Xq := Ext.wr Xq Wq_2 gzq
          have Kq := Kq.wr Wq_2 (Or.inr g0q)
          refine g_dup C at_346 rfl (q := 347) rfl ?_
          refine g_iconst C at_347 (z := (3 : Int32)) rfl (q := 348) rfl ?_
          refine g_iload C at_348 (v := d3) rfl (q := 350) rfl ?_
          refine g_castore C at_350 (i := 3) Bq (by decide) rfl gbq (q := 351) rfl (fun hq_3 Wq_3 Bq => ?_)
          have Exq := Exq.wr Wq_3
          have FVq := FVq.other Wq_3 (Or.inl nsbq)
          have FCq := FCq.other Wq_3 (Or.inl nsbq)
          have Xq := Ext.wr Xq Wq_3 gzq
          have Kq := Kq.wr Wq_3 (Or.inr g0q)
          refine g_dup C at_351 rfl (q := 352) rfl ?_
          refine g_iconst C at_352 (z := (4 : Int32)) rfl (q := 353) rfl ?_
          refine g_iload C at_353 (v := d4) rfl (q := 355) rfl ?_
          refine g_castore C at_355 (i := 4) Bq (by decide) rfl gbq (q := 356) rfl (fun hq_4 Wq_4 Bq => ?_)
          have Exq := Exq.wr Wq_4
          have FVq := FVq.other Wq_4 (Or.inl nsbq)
          have FCq := FCq.other Wq_4 (Or.inl nsbq)
          have Xq := Ext.wr Xq Wq_4 gzq
          have Kq := Kq.wr Wq_4 (Or.inr g0q)
          refine g_dup C at_356 rfl (q := 357) rfl ?_
          refine g_iconst C at_357 (z := (5 : Int32)) rfl (q := 358) rfl ?_
          refine g_iload C at_358 (v := d5) rfl (q := 360) rfl ?_
          refine g_castore C at_360 (i := 5) Bq (by decide) rfl gbq (q := 361) rfl (fun hq_5 Wq_5 Bq => ?_)
          have Exq := Exq.wr Wq_5
          have FVq := FVq.other Wq_5 (Or.inl nsbq)
          have FCq := FCq.other Wq_5 (Or.inl nsbq)
          have Xq := Ext.wr Xq Wq_5 gzq
          have Kq := Kq.wr Wq_5 (Or.inr g0q)
          refine g_dup C at_361 rfl (q := 362) rfl ?_
          refine g_bipush C at_362 (z := (6 : Int32)) rfl (q := 364) rfl ?_
          refine g_iload C at_364 (v := d6) rfl (q := 366) rfl ?_
          refine g_castore C at_366 (i := 6) Bq (by decide) rfl gbq (q := 367) rfl (fun hq_6 Wq_6 Bq => ?_)
          have Exq := Exq.wr Wq_6
          have FVq := FVq.other Wq_6 (Or.inl nsbq)
          have FCq := FCq.other Wq_6 (Or.inl nsbq)
          have Xq := Ext.wr Xq Wq_6 gzq
          have Kq := Kq.wr Wq_6 (Or.inr g0q)
          refine g_dup C at_367 rfl (q := 368) rfl ?_
          refine g_bipush C at_368 (z := (7 : Int32)) rfl (q := 370) rfl ?_
          refine g_iload C at_370 (v := d7) rfl (q := 372) rfl ?_
          refine g_castore C at_372 (i := 7) Bq (by decide) rfl gbq (q := 373) rfl (fun hq_7 Wq_7 Bq => ?_)
          have Exq := Exq.wr Wq_7
          have FVq := FVq.other Wq_7 (Or.inl nsbq)
          have FCq := FCq.other Wq_7 (Or.inl nsbq)
          have Xq := Ext.wr Xq Wq_7 gzq
          have Kq := Kq.wr Wq_7 (Or.inr g0q)
          refine g_dup C at_373 rfl (q := 374) rfl ?_
          refine g_bipush C at_374 (z := (8 : Int32)) rfl (q := 376) rfl ?_
          refine g_iload C at_376 (v := d8) rfl (q := 378) rfl ?_
          refine g_castore C at_378 (i := 8) Bq (by decide) rfl gbq (q := 379) rfl (fun hq_8 Wq_8 Bq => ?_)
          have Exq := Exq.wr Wq_8
          have FVq := FVq.other Wq_8 (Or.inl nsbq)
          have FCq := FCq.other Wq_8 (Or.inl nsbq)
          have Xq := Ext.wr Xq Wq_8 gzq
          have Kq := Kq.wr Wq_8 (Or.inr g0q)
          refine g_dup C at_379 rfl (q := 380) rfl ?_
          refine g_bipush C at_380 (z := (9 : Int32)) rfl (q := 382) rfl ?_
          refine g_iload C at_382 (v := d9) rfl (q := 384) rfl ?_
          refine g_castore C at_384 (i := 9) Bq (by decide) rfl gbq (q := 385) rfl (fun hq_9 Wq_9 Bq => ?_)
          have Exq := Exq.wr Wq_9
          have FVq := FVq.other Wq_9 (Or.inl nsbq)
          have FCq := FCq.other Wq_9 (Or.inl nsbq)
          have Xq := Ext.wr Xq Wq_9 gzq
          have Kq := Kq.wr Wq_9 (Or.inr g0q)
          have hpcq : ∀ c ∈ ([d0, d1, d2, d3, d4, d5, d6, d7, d8, d9] : List Int32), ¬ c < 0 ∧ ¬ (255 : Int32) < c := by
            intro c hc
            simp only [List.mem_cons, List.not_mem_nil, or_false] at hc
            rcases hc with rfl | rfl | rfl | rfl | rfl | rfl | rfl | rfl | rfl | rfl
            · exact q0
            · exact q1
            · exact q2
            · exact q3
            · exact q4
            · exact q5
            · exact q6
            · exact q7
            · exact q8
            · exact q9
          have Zcq : n0 ≤ hq_9.size := Nat.le_trans Z0 Kq.1
          refine g_callI C (W := 1) (argsL := [(.ref bq)]) (rest := [(.ref sq)]) (a := sq) at_385 rfl (wd13 hw) (wd14 hw) (wd15 hw) (by decide) (bk_str (cs := [d0, d1, d2, d3, d4, d5, d6, d7, d8, d9]) C hw (wd10 hw) gsq Zcq Exq FVq FCq Bq (fun j hj => by
                obtain rfl | rfl | rfl | rfl | rfl | rfl | rfl | rfl | rfl | rfl : j = 0 ∨ j = 1 ∨ j = 2 ∨ j = 3 ∨ j = 4 ∨ j = 5 ∨ j = 6 ∨ j = 7 ∨ j = 8 ∨ j = 9 := by omega
                all_goals simp [byte_nar q0, byte_nar q1, byte_nar q2, byte_nar q3, byte_nar q4, byte_nar q5, byte_nar q6, byte_nar q7, byte_nar q8, byte_nar q9]) (LG0.1.ext Xq) LG0.2.1 rfl (by decide) (by decide) hpcq (by decide) (by decide)) (by decide) (by decide) rfl (lenOf pd10 rfl) rfl rfl (q := 388) rfl (fun vq hq hQq => ?_)
          obtain ⟨rfl, Ksq, Esq, Csq, taq, kbq, -, -, -, Vsq, Asq⟩ := hQq
          refine ⟨[(.ref sq)], rfl, ?_⟩
          have Sq : SL Z hq sq [d0, d1, d2, d3, d4, d5, d6, d7, d8, d9] := SL.of (n := 10) rfl (by decide) Esq Csq Vsq Asq hpcq
          have Ktq : Keep h0 hq [] := Kq.trans Ksq (fun x hx => Or.inr (by cases List.mem_singleton.mp hx; rw [qnq]; exact Nat.le_refl _))
          have Xq' := Ext.keep X0 Ktq (by simp)
          refine g_astore C at_388 rfl (L' := #[.val (.long la), .second, .val (.long lb), .second, .val (.int lc), .val (.int d0), .val (.int d1), .val (.int d2), .val (.int d3), .val (.int d4), .val (.int d5), .val (.int d6), .val (.int d7), .val (.int d8), .val (.int d9), .val (.int sel), .val (.int ex), .val (.ref sq), .unset, .unset, .unset]) rfl (q := 390) rfl ?_
          refine g_iload C at_390 (v := d0) rfl (q := 392) rfl ?_
          refine g_callS C (W := 0) (argsL := [(.int d0)]) (rest := []) at_392 (wd39 hw) (wd40 hw) (wd2 hw) (wd41 hw) (by decide) (Ctr.bk (c_dig l Z a0 G d0 hq n0) C (wd41 hw) (wd2 hw) (by decide) (by decide)) (by decide) (by decide) rfl (lenOf pd11 rfl) rfl rfl (q := 395) rfl (fun v1 h1 hQ1 => ?_)
          obtain ⟨rfl, r, rfl, Dg⟩ := hQ1
          refine ⟨[(.int r)], rfl, ?_⟩
          rcases Or.symm Dg with ⟨g0, rfl⟩ | ⟨g0, rfl⟩
          ·
            refine g_if_eq C at_395 (q' := 474) (q := 398) (by decide) (by decide) rfl (fun hy => ?_) (fun hn => absurd rfl hn)
            refine g_iconst C at_474 (z := (0 : Int32)) rfl (q := 475) rfl ?_
            refine g_istore C at_475 (L' := #[.val (.long la), .second, .val (.long lb), .second, .val (.int lc), .val (.int d0), .val (.int d1), .val (.int d2), .val (.int d3), .val (.int d4), .val (.int d5), .val (.int d6), .val (.int d7), .val (.int d8), .val (.int d9), .val (.int sel), .val (.int ex), .val (.ref sq), .unset, .val (.int (0 : Int32)), .unset]) rfl (q := 477) rfl ?_
            refine g_iload C at_477 (v := (0 : Int32)) rfl (q := 479) rfl ?_
            refine g_if_eq C at_479 (q' := 584) (q := 482) (by decide) (by decide) rfl (fun hy => ?_) (fun hn => absurd rfl hn)
            refine g_iconst C at_584 (z := (0 : Int32)) rfl (q := 585) rfl ?_
            refine g_istore C at_585 (L' := #[.val (.long la), .second, .val (.long lb), .second, .val (.int lc), .val (.int d0), .val (.int d1), .val (.int d2), .val (.int d3), .val (.int d4), .val (.int d5), .val (.int d6), .val (.int d7), .val (.int d8), .val (.int d9), .val (.int sel), .val (.int ex), .val (.ref sq), .val (.int (0 : Int32)), .val (.int (0 : Int32)), .unset]) rfl (q := 587) rfl ?_
            exact Go.more (k' := 6) (n' := 64) (by decide) (by decide) (tailS l Z a0 G cz fm LG0 hq n0 Xq' la lb lc d0 d1 d2 d3 d4 d5 d6 d7 d8 d9 sel ex 0 _ .unset C (Sw.mono Ktq.1) sq [d0, d1, d2, d3, d4, d5, d6, d7, d8, d9] Sq (Or.inr ⟨fun q => g0 (q.2.1 0 (by decide)), rfl⟩))
          refine g_if_eq C at_395 (q' := 474) (q := 398) (by decide) (by decide) rfl (fun hy => absurd hy (by decide)) (fun hn => ?_)
          refine g_iload C at_398 (v := d1) rfl (q := 400) rfl ?_
          refine g_callS C (W := 0) (argsL := [(.int d1)]) (rest := []) at_400 (wd39 hw) (wd40 hw) (wd2 hw) (wd41 hw) (by decide) (Ctr.bk (c_dig l Z a0 G d1 hq n0) C (wd41 hw) (wd2 hw) (by decide) (by decide)) (by decide) (by decide) rfl (lenOf pd11 rfl) rfl rfl (q := 403) rfl (fun v1 h1 hQ1 => ?_)
          obtain ⟨rfl, r, rfl, Dg⟩ := hQ1
          refine ⟨[(.int r)], rfl, ?_⟩
          rcases Or.symm Dg with ⟨g1, rfl⟩ | ⟨g1, rfl⟩
          ·
            refine g_if_eq C at_403 (q' := 474) (q := 406) (by decide) (by decide) rfl (fun hy => ?_) (fun hn => absurd rfl hn)
            refine g_iconst C at_474 (z := (0 : Int32)) rfl (q := 475) rfl ?_
            refine g_istore C at_475 (L' := #[.val (.long la), .second, .val (.long lb), .second, .val (.int lc), .val (.int d0), .val (.int d1), .val (.int d2), .val (.int d3), .val (.int d4), .val (.int d5), .val (.int d6), .val (.int d7), .val (.int d8), .val (.int d9), .val (.int sel), .val (.int ex), .val (.ref sq), .unset, .val (.int (0 : Int32)), .unset]) rfl (q := 477) rfl ?_
            refine g_iload C at_477 (v := (0 : Int32)) rfl (q := 479) rfl ?_
            refine g_if_eq C at_479 (q' := 584) (q := 482) (by decide) (by decide) rfl (fun hy => ?_) (fun hn => absurd rfl hn)
            refine g_iconst C at_584 (z := (0 : Int32)) rfl (q := 585) rfl ?_
            refine g_istore C at_585 (L' := #[.val (.long la), .second, .val (.long lb), .second, .val (.int lc), .val (.int d0), .val (.int d1), .val (.int d2), .val (.int d3), .val (.int d4), .val (.int d5), .val (.int d6), .val (.int d7), .val (.int d8), .val (.int d9), .val (.int sel), .val (.int ex), .val (.ref sq), .val (.int (0 : Int32)), .val (.int (0 : Int32)), .unset]) rfl (q := 587) rfl ?_
            exact Go.more (k' := 6) (n' := 64) (by decide) (by decide) (tailS l Z a0 G cz fm LG0 hq n0 Xq' la lb lc d0 d1 d2 d3 d4 d5 d6 d7 d8 d9 sel ex 0 _ .unset C (Sw.mono Ktq.1) sq [d0, d1, d2, d3, d4, d5, d6, d7, d8, d9] Sq (Or.inr ⟨fun q => g1 (q.2.1 1 (by decide)), rfl⟩))
          refine g_if_eq C at_403 (q' := 474) (q := 406) (by decide) (by decide) rfl (fun hy => absurd hy (by decide)) (fun hn => ?_)
          refine g_iload C at_406 (v := d2) rfl (q := 408) rfl ?_
          refine g_callS C (W := 0) (argsL := [(.int d2)]) (rest := []) at_408 (wd39 hw) (wd40 hw) (wd2 hw) (wd41 hw) (by decide) (Ctr.bk (c_dig l Z a0 G d2 hq n0) C (wd41 hw) (wd2 hw) (by decide) (by decide)) (by decide) (by decide) rfl (lenOf pd11 rfl) rfl rfl (q := 411) rfl (fun v1 h1 hQ1 => ?_)
          obtain ⟨rfl, r, rfl, Dg⟩ := hQ1
          refine ⟨[(.int r)], rfl, ?_⟩
          rcases Or.symm Dg with ⟨g2, rfl⟩ | ⟨g2, rfl⟩
          ·
            refine g_if_eq C at_411 (q' := 474) (q := 414) (by decide) (by decide) rfl (fun hy => ?_) (fun hn => absurd rfl hn)
            refine g_iconst C at_474 (z := (0 : Int32)) rfl (q := 475) rfl ?_
            refine g_istore C at_475 (L' := #[.val (.long la), .second, .val (.long lb), .second, .val (.int lc), .val (.int d0), .val (.int d1), .val (.int d2), .val (.int d3), .val (.int d4), .val (.int d5), .val (.int d6), .val (.int d7), .val (.int d8), .val (.int d9), .val (.int sel), .val (.int ex), .val (.ref sq), .unset, .val (.int (0 : Int32)), .unset]) rfl (q := 477) rfl ?_
            refine g_iload C at_477 (v := (0 : Int32)) rfl (q := 479) rfl ?_
            refine g_if_eq C at_479 (q' := 584) (q := 482) (by decide) (by decide) rfl (fun hy => ?_) (fun hn => absurd rfl hn)
            refine g_iconst C at_584 (z := (0 : Int32)) rfl (q := 585) rfl ?_
            refine g_istore C at_585 (L' := #[.val (.long la), .second, .val (.long lb), .second, .val (.int lc), .val (.int d0), .val (.int d1), .val (.int d2), .val (.int d3), .val (.int d4), .val (.int d5), .val (.int d6), .val (.int d7), .val (.int d8), .val (.int d9), .val (.int sel), .val (.int ex), .val (.ref sq), .val (.int (0 : Int32)), .val (.int (0 : Int32)), .unset]) rfl (q := 587) rfl ?_
            exact Go.more (k' := 6) (n' := 64) (by decide) (by decide) (tailS l Z a0 G cz fm LG0 hq n0 Xq' la lb lc d0 d1 d2 d3 d4 d5 d6 d7 d8 d9 sel ex 0 _ .unset C (Sw.mono Ktq.1) sq [d0, d1, d2, d3, d4, d5, d6, d7, d8, d9] Sq (Or.inr ⟨fun q => g2 (q.2.1 2 (by decide)), rfl⟩))
          refine g_if_eq C at_411 (q' := 474) (q := 414) (by decide) (by decide) rfl (fun hy => absurd hy (by decide)) (fun hn => ?_)
          refine g_iload C at_414 (v := d3) rfl (q := 416) rfl ?_
          refine g_callS C (W := 0) (argsL := [(.int d3)]) (rest := []) at_416 (wd39 hw) (wd40 hw) (wd2 hw) (wd41 hw) (by decide) (Ctr.bk (c_dig l Z a0 G d3 hq n0) C (wd41 hw) (wd2 hw) (by decide) (by decide)) (by decide) (by decide) rfl (lenOf pd11 rfl) rfl rfl (q := 419) rfl (fun v1 h1 hQ1 => ?_)
          obtain ⟨rfl, r, rfl, Dg⟩ := hQ1
          refine ⟨[(.int r)], rfl, ?_⟩
          rcases Or.symm Dg with ⟨g3, rfl⟩ | ⟨g3, rfl⟩
          ·
            refine g_if_eq C at_419 (q' := 474) (q := 422) (by decide) (by decide) rfl (fun hy => ?_) (fun hn => absurd rfl hn)
            refine g_iconst C at_474 (z := (0 : Int32)) rfl (q := 475) rfl ?_
            refine g_istore C at_475 (L' := #[.val (.long la), .second, .val (.long lb), .second, .val (.int lc), .val (.int d0), .val (.int d1), .val (.int d2), .val (.int d3), .val (.int d4), .val (.int d5), .val (.int d6), .val (.int d7), .val (.int d8), .val (.int d9), .val (.int sel), .val (.int ex), .val (.ref sq), .unset, .val (.int (0 : Int32)), .unset]) rfl (q := 477) rfl ?_
            refine g_iload C at_477 (v := (0 : Int32)) rfl (q := 479) rfl ?_
            refine g_if_eq C at_479 (q' := 584) (q := 482) (by decide) (by decide) rfl (fun hy => ?_) (fun hn => absurd rfl hn)
            refine g_iconst C at_584 (z := (0 : Int32)) rfl (q := 585) rfl ?_
            refine g_istore C at_585 (L' := #[.val (.long la), .second, .val (.long lb), .second, .val (.int lc), .val (.int d0), .val (.int d1), .val (.int d2), .val (.int d3), .val (.int d4), .val (.int d5), .val (.int d6), .val (.int d7), .val (.int d8), .val (.int d9), .val (.int sel), .val (.int ex), .val (.ref sq), .val (.int (0 : Int32)), .val (.int (0 : Int32)), .unset]) rfl (q := 587) rfl ?_
            exact Go.more (k' := 6) (n' := 64) (by decide) (by decide) (tailS l Z a0 G cz fm LG0 hq n0 Xq' la lb lc d0 d1 d2 d3 d4 d5 d6 d7 d8 d9 sel ex 0 _ .unset C (Sw.mono Ktq.1) sq [d0, d1, d2, d3, d4, d5, d6, d7, d8, d9] Sq (Or.inr ⟨fun q => g3 (q.2.1 3 (by decide)), rfl⟩))
          refine g_if_eq C at_419 (q' := 474) (q := 422) (by decide) (by decide) rfl (fun hy => absurd hy (by decide)) (fun hn => ?_)
          refine g_iload C at_422 (v := d4) rfl (q := 424) rfl ?_
          refine g_callS C (W := 0) (argsL := [(.int d4)]) (rest := []) at_424 (wd39 hw) (wd40 hw) (wd2 hw) (wd41 hw) (by decide) (Ctr.bk (c_dig l Z a0 G d4 hq n0) C (wd41 hw) (wd2 hw) (by decide) (by decide)) (by decide) (by decide) rfl (lenOf pd11 rfl) rfl rfl (q := 427) rfl (fun v1 h1 hQ1 => ?_)
          obtain ⟨rfl, r, rfl, Dg⟩ := hQ1
          refine ⟨[(.int r)], rfl, ?_⟩
          rcases Or.symm Dg with ⟨g4, rfl⟩ | ⟨g4, rfl⟩
          ·
            refine g_if_eq C at_427 (q' := 474) (q := 430) (by decide) (by decide) rfl (fun hy => ?_) (fun hn => absurd rfl hn)
            refine g_iconst C at_474 (z := (0 : Int32)) rfl (q := 475) rfl ?_
            refine g_istore C at_475 (L' := #[.val (.long la), .second, .val (.long lb), .second, .val (.int lc), .val (.int d0), .val (.int d1), .val (.int d2), .val (.int d3), .val (.int d4), .val (.int d5), .val (.int d6), .val (.int d7), .val (.int d8), .val (.int d9), .val (.int sel), .val (.int ex), .val (.ref sq), .unset, .val (.int (0 : Int32)), .unset]) rfl (q := 477) rfl ?_
            refine g_iload C at_477 (v := (0 : Int32)) rfl (q := 479) rfl ?_
            refine g_if_eq C at_479 (q' := 584) (q := 482) (by decide) (by decide) rfl (fun hy => ?_) (fun hn => absurd rfl hn)
            refine g_iconst C at_584 (z := (0 : Int32)) rfl (q := 585) rfl ?_
            refine g_istore C at_585 (L' := #[.val (.long la), .second, .val (.long lb), .second, .val (.int lc), .val (.int d0), .val (.int d1), .val (.int d2), .val (.int d3), .val (.int d4), .val (.int d5), .val (.int d6), .val (.int d7), .val (.int d8), .val (.int d9), .val (.int sel), .val (.int ex), .val (.ref sq), .val (.int (0 : Int32)), .val (.int (0 : Int32)), .unset]) rfl (q := 587) rfl ?_
            exact Go.more (k' := 6) (n' := 64) (by decide) (by decide) (tailS l Z a0 G cz fm LG0 hq n0 Xq' la lb lc d0 d1 d2 d3 d4 d5 d6 d7 d8 d9 sel ex 0 _ .unset C (Sw.mono Ktq.1) sq [d0, d1, d2, d3, d4, d5, d6, d7, d8, d9] Sq (Or.inr ⟨fun q => g4 (q.2.1 4 (by decide)), rfl⟩))
          refine g_if_eq C at_427 (q' := 474) (q := 430) (by decide) (by decide) rfl (fun hy => absurd hy (by decide)) (fun hn => ?_)
          refine g_iload C at_430 (v := d5) rfl (q := 432) rfl ?_
          refine g_callS C (W := 0) (argsL := [(.int d5)]) (rest := []) at_432 (wd39 hw) (wd40 hw) (wd2 hw) (wd41 hw) (by decide) (Ctr.bk (c_dig l Z a0 G d5 hq n0) C (wd41 hw) (wd2 hw) (by decide) (by decide)) (by decide) (by decide) rfl (lenOf pd11 rfl) rfl rfl (q := 435) rfl (fun v1 h1 hQ1 => ?_)
          obtain ⟨rfl, r, rfl, Dg⟩ := hQ1
          refine ⟨[(.int r)], rfl, ?_⟩
          rcases Or.symm Dg with ⟨g5, rfl⟩ | ⟨g5, rfl⟩
          ·
            refine g_if_eq C at_435 (q' := 474) (q := 438) (by decide) (by decide) rfl (fun hy => ?_) (fun hn => absurd rfl hn)
            refine g_iconst C at_474 (z := (0 : Int32)) rfl (q := 475) rfl ?_
            refine g_istore C at_475 (L' := #[.val (.long la), .second, .val (.long lb), .second, .val (.int lc), .val (.int d0), .val (.int d1), .val (.int d2), .val (.int d3), .val (.int d4), .val (.int d5), .val (.int d6), .val (.int d7), .val (.int d8), .val (.int d9), .val (.int sel), .val (.int ex), .val (.ref sq), .unset, .val (.int (0 : Int32)), .unset]) rfl (q := 477) rfl ?_
            refine g_iload C at_477 (v := (0 : Int32)) rfl (q := 479) rfl ?_
            refine g_if_eq C at_479 (q' := 584) (q := 482) (by decide) (by decide) rfl (fun hy => ?_) (fun hn => absurd rfl hn)
            refine g_iconst C at_584 (z := (0 : Int32)) rfl (q := 585) rfl ?_
            refine g_istore C at_585 (L' := #[.val (.long la), .second, .val (.long lb), .second, .val (.int lc), .val (.int d0), .val (.int d1), .val (.int d2), .val (.int d3), .val (.int d4), .val (.int d5), .val (.int d6), .val (.int d7), .val (.int d8), .val (.int d9), .val (.int sel), .val (.int ex), .val (.ref sq), .val (.int (0 : Int32)), .val (.int (0 : Int32)), .unset]) rfl (q := 587) rfl ?_
            exact Go.more (k' := 6) (n' := 64) (by decide) (by decide) (tailS l Z a0 G cz fm LG0 hq n0 Xq' la lb lc d0 d1 d2 d3 d4 d5 d6 d7 d8 d9 sel ex 0 _ .unset C (Sw.mono Ktq.1) sq [d0, d1, d2, d3, d4, d5, d6, d7, d8, d9] Sq (Or.inr ⟨fun q => g5 (q.2.1 5 (by decide)), rfl⟩))
          refine g_if_eq C at_435 (q' := 474) (q := 438) (by decide) (by decide) rfl (fun hy => absurd hy (by decide)) (fun hn => ?_)
          refine g_iload C at_438 (v := d6) rfl (q := 440) rfl ?_
          refine g_callS C (W := 0) (argsL := [(.int d6)]) (rest := []) at_440 (wd39 hw) (wd40 hw) (wd2 hw) (wd41 hw) (by decide) (Ctr.bk (c_dig l Z a0 G d6 hq n0) C (wd41 hw) (wd2 hw) (by decide) (by decide)) (by decide) (by decide) rfl (lenOf pd11 rfl) rfl rfl (q := 443) rfl (fun v1 h1 hQ1 => ?_)
          obtain ⟨rfl, r, rfl, Dg⟩ := hQ1
          refine ⟨[(.int r)], rfl, ?_⟩
          rcases Or.symm Dg with ⟨g6, rfl⟩ | ⟨g6, rfl⟩
          ·
            refine g_if_eq C at_443 (q' := 474) (q := 446) (by decide) (by decide) rfl (fun hy => ?_) (fun hn => absurd rfl hn)
            refine g_iconst C at_474 (z := (0 : Int32)) rfl (q := 475) rfl ?_
            refine g_istore C at_475 (L' := #[.val (.long la), .second, .val (.long lb), .second, .val (.int lc), .val (.int d0), .val (.int d1), .val (.int d2), .val (.int d3), .val (.int d4), .val (.int d5), .val (.int d6), .val (.int d7), .val (.int d8), .val (.int d9), .val (.int sel), .val (.int ex), .val (.ref sq), .unset, .val (.int (0 : Int32)), .unset]) rfl (q := 477) rfl ?_
            refine g_iload C at_477 (v := (0 : Int32)) rfl (q := 479) rfl ?_
            refine g_if_eq C at_479 (q' := 584) (q := 482) (by decide) (by decide) rfl (fun hy => ?_) (fun hn => absurd rfl hn)
            refine g_iconst C at_584 (z := (0 : Int32)) rfl (q := 585) rfl ?_
            refine g_istore C at_585 (L' := #[.val (.long la), .second, .val (.long lb), .second, .val (.int lc), .val (.int d0), .val (.int d1), .val (.int d2), .val (.int d3), .val (.int d4), .val (.int d5), .val (.int d6), .val (.int d7), .val (.int d8), .val (.int d9), .val (.int sel), .val (.int ex), .val (.ref sq), .val (.int (0 : Int32)), .val (.int (0 : Int32)), .unset]) rfl (q := 587) rfl ?_
            exact Go.more (k' := 6) (n' := 64) (by decide) (by decide) (tailS l Z a0 G cz fm LG0 hq n0 Xq' la lb lc d0 d1 d2 d3 d4 d5 d6 d7 d8 d9 sel ex 0 _ .unset C (Sw.mono Ktq.1) sq [d0, d1, d2, d3, d4, d5, d6, d7, d8, d9] Sq (Or.inr ⟨fun q => g6 (q.2.1 6 (by decide)), rfl⟩))
          refine g_if_eq C at_443 (q' := 474) (q := 446) (by decide) (by decide) rfl (fun hy => absurd hy (by decide)) (fun hn => ?_)
          refine g_iload C at_446 (v := d7) rfl (q := 448) rfl ?_
          refine g_callS C (W := 0) (argsL := [(.int d7)]) (rest := []) at_448 (wd39 hw) (wd40 hw) (wd2 hw) (wd41 hw) (by decide) (Ctr.bk (c_dig l Z a0 G d7 hq n0) C (wd41 hw) (wd2 hw) (by decide) (by decide)) (by decide) (by decide) rfl (lenOf pd11 rfl) rfl rfl (q := 451) rfl (fun v1 h1 hQ1 => ?_)
          obtain ⟨rfl, r, rfl, Dg⟩ := hQ1
          refine ⟨[(.int r)], rfl, ?_⟩
          rcases Or.symm Dg with ⟨g7, rfl⟩ | ⟨g7, rfl⟩
          ·
            refine g_if_eq C at_451 (q' := 474) (q := 454) (by decide) (by decide) rfl (fun hy => ?_) (fun hn => absurd rfl hn)
            refine g_iconst C at_474 (z := (0 : Int32)) rfl (q := 475) rfl ?_
            refine g_istore C at_475 (L' := #[.val (.long la), .second, .val (.long lb), .second, .val (.int lc), .val (.int d0), .val (.int d1), .val (.int d2), .val (.int d3), .val (.int d4), .val (.int d5), .val (.int d6), .val (.int d7), .val (.int d8), .val (.int d9), .val (.int sel), .val (.int ex), .val (.ref sq), .unset, .val (.int (0 : Int32)), .unset]) rfl (q := 477) rfl ?_
            refine g_iload C at_477 (v := (0 : Int32)) rfl (q := 479) rfl ?_
            refine g_if_eq C at_479 (q' := 584) (q := 482) (by decide) (by decide) rfl (fun hy => ?_) (fun hn => absurd rfl hn)
            refine g_iconst C at_584 (z := (0 : Int32)) rfl (q := 585) rfl ?_
            refine g_istore C at_585 (L' := #[.val (.long la), .second, .val (.long lb), .second, .val (.int lc), .val (.int d0), .val (.int d1), .val (.int d2), .val (.int d3), .val (.int d4), .val (.int d5), .val (.int d6), .val (.int d7), .val (.int d8), .val (.int d9), .val (.int sel), .val (.int ex), .val (.ref sq), .val (.int (0 : Int32)), .val (.int (0 : Int32)), .unset]) rfl (q := 587) rfl ?_
            exact Go.more (k' := 6) (n' := 64) (by decide) (by decide) (tailS l Z a0 G cz fm LG0 hq n0 Xq' la lb lc d0 d1 d2 d3 d4 d5 d6 d7 d8 d9 sel ex 0 _ .unset C (Sw.mono Ktq.1) sq [d0, d1, d2, d3, d4, d5, d6, d7, d8, d9] Sq (Or.inr ⟨fun q => g7 (q.2.1 7 (by decide)), rfl⟩))
          refine g_if_eq C at_451 (q' := 474) (q := 454) (by decide) (by decide) rfl (fun hy => absurd hy (by decide)) (fun hn => ?_)
          refine g_iload C at_454 (v := d8) rfl (q := 456) rfl ?_
          refine g_callS C (W := 0) (argsL := [(.int d8)]) (rest := []) at_456 (wd39 hw) (wd40 hw) (wd2 hw) (wd41 hw) (by decide) (Ctr.bk (c_dig l Z a0 G d8 hq n0) C (wd41 hw) (wd2 hw) (by decide) (by decide)) (by decide) (by decide) rfl (lenOf pd11 rfl) rfl rfl (q := 459) rfl (fun v1 h1 hQ1 => ?_)
          obtain ⟨rfl, r, rfl, Dg⟩ := hQ1
          refine ⟨[(.int r)], rfl, ?_⟩
          rcases Or.symm Dg with ⟨g8, rfl⟩ | ⟨g8, rfl⟩
          ·
            refine g_if_eq C at_459 (q' := 474) (q := 462) (by decide) (by decide) rfl (fun hy => ?_) (fun hn => absurd rfl hn)
            refine g_iconst C at_474 (z := (0 : Int32)) rfl (q := 475) rfl ?_
            refine g_istore C at_475 (L' := #[.val (.long la), .second, .val (.long lb), .second, .val (.int lc), .val (.int d0), .val (.int d1), .val (.int d2), .val (.int d3), .val (.int d4), .val (.int d5), .val (.int d6), .val (.int d7), .val (.int d8), .val (.int d9), .val (.int sel), .val (.int ex), .val (.ref sq), .unset, .val (.int (0 : Int32)), .unset]) rfl (q := 477) rfl ?_
            refine g_iload C at_477 (v := (0 : Int32)) rfl (q := 479) rfl ?_
            refine g_if_eq C at_479 (q' := 584) (q := 482) (by decide) (by decide) rfl (fun hy => ?_) (fun hn => absurd rfl hn)
            refine g_iconst C at_584 (z := (0 : Int32)) rfl (q := 585) rfl ?_
            refine g_istore C at_585 (L' := #[.val (.long la), .second, .val (.long lb), .second, .val (.int lc), .val (.int d0), .val (.int d1), .val (.int d2), .val (.int d3), .val (.int d4), .val (.int d5), .val (.int d6), .val (.int d7), .val (.int d8), .val (.int d9), .val (.int sel), .val (.int ex), .val (.ref sq), .val (.int (0 : Int32)), .val (.int (0 : Int32)), .unset]) rfl (q := 587) rfl ?_
            exact Go.more (k' := 6) (n' := 64) (by decide) (by decide) (tailS l Z a0 G cz fm LG0 hq n0 Xq' la lb lc d0 d1 d2 d3 d4 d5 d6 d7 d8 d9 sel ex 0 _ .unset C (Sw.mono Ktq.1) sq [d0, d1, d2, d3, d4, d5, d6, d7, d8, d9] Sq (Or.inr ⟨fun q => g8 (q.2.1 8 (by decide)), rfl⟩))
          refine g_if_eq C at_459 (q' := 474) (q := 462) (by decide) (by decide) rfl (fun hy => absurd hy (by decide)) (fun hn => ?_)
          refine g_iload C at_462 (v := d9) rfl (q := 464) rfl ?_
          refine g_callS C (W := 0) (argsL := [(.int d9)]) (rest := []) at_464 (wd39 hw) (wd40 hw) (wd2 hw) (wd41 hw) (by decide) (Ctr.bk (c_dig l Z a0 G d9 hq n0) C (wd41 hw) (wd2 hw) (by decide) (by decide)) (by decide) (by decide) rfl (lenOf pd11 rfl) rfl rfl (q := 467) rfl (fun v1 h1 hQ1 => ?_)
          obtain ⟨rfl, r, rfl, Dg⟩ := hQ1
          refine ⟨[(.int r)], rfl, ?_⟩
          rcases Or.symm Dg with ⟨g9, rfl⟩ | ⟨g9, rfl⟩
          ·
            refine g_if_eq C at_467 (q' := 474) (q := 470) (by decide) (by decide) rfl (fun hy => ?_) (fun hn => absurd rfl hn)
            refine g_iconst C at_474 (z := (0 : Int32)) rfl (q := 475) rfl ?_
            refine g_istore C at_475 (L' := #[.val (.long la), .second, .val (.long lb), .second, .val (.int lc), .val (.int d0), .val (.int d1), .val (.int d2), .val (.int d3), .val (.int d4), .val (.int d5), .val (.int d6), .val (.int d7), .val (.int d8), .val (.int d9), .val (.int sel), .val (.int ex), .val (.ref sq), .unset, .val (.int (0 : Int32)), .unset]) rfl (q := 477) rfl ?_
            refine g_iload C at_477 (v := (0 : Int32)) rfl (q := 479) rfl ?_
            refine g_if_eq C at_479 (q' := 584) (q := 482) (by decide) (by decide) rfl (fun hy => ?_) (fun hn => absurd rfl hn)
            refine g_iconst C at_584 (z := (0 : Int32)) rfl (q := 585) rfl ?_
            refine g_istore C at_585 (L' := #[.val (.long la), .second, .val (.long lb), .second, .val (.int lc), .val (.int d0), .val (.int d1), .val (.int d2), .val (.int d3), .val (.int d4), .val (.int d5), .val (.int d6), .val (.int d7), .val (.int d8), .val (.int d9), .val (.int sel), .val (.int ex), .val (.ref sq), .val (.int (0 : Int32)), .val (.int (0 : Int32)), .unset]) rfl (q := 587) rfl ?_
            exact Go.more (k' := 6) (n' := 64) (by decide) (by decide) (tailS l Z a0 G cz fm LG0 hq n0 Xq' la lb lc d0 d1 d2 d3 d4 d5 d6 d7 d8 d9 sel ex 0 _ .unset C (Sw.mono Ktq.1) sq [d0, d1, d2, d3, d4, d5, d6, d7, d8, d9] Sq (Or.inr ⟨fun q => g9 (q.2.1 9 (by decide)), rfl⟩))
          refine g_if_eq C at_467 (q' := 474) (q := 470) (by decide) (by decide) rfl (fun hy => absurd hy (by decide)) (fun hn => ?_)
          refine g_iconst C at_470 (z := (1 : Int32)) rfl (q := 471) rfl ?_
          refine g_goto C at_471 (q := 475) (by decide) (by decide) ?_
          refine g_istore C at_475 (L' := #[.val (.long la), .second, .val (.long lb), .second, .val (.int lc), .val (.int d0), .val (.int d1), .val (.int d2), .val (.int d3), .val (.int d4), .val (.int d5), .val (.int d6), .val (.int d7), .val (.int d8), .val (.int d9), .val (.int sel), .val (.int ex), .val (.ref sq), .unset, .val (.int (1 : Int32)), .unset]) rfl (q := 477) rfl ?_
          refine g_iload C at_477 (v := (1 : Int32)) rfl (q := 479) rfl ?_
          refine g_if_eq C at_479 (q' := 584) (q := 482) (by decide) (by decide) rfl (fun hy => absurd hy (by decide)) (fun hn => ?_)
          refine g_bipush C at_482 (z := (10 : Int32)) rfl (q := 484) rfl ?_
          refine g_iload C at_484 (v := d0) rfl (q := 486) rfl ?_
          refine g_bipush C at_486 (z := (48 : Int32)) rfl (q := 488) rfl ?_
          refine g_isub C at_488 (q := 489) rfl ?_
          refine g_imul C at_489 (q := 490) rfl ?_
          refine g_bipush C at_490 (z := (9 : Int32)) rfl (q := 492) rfl ?_
          refine g_iload C at_492 (v := d1) rfl (q := 494) rfl ?_
          refine g_bipush C at_494 (z := (48 : Int32)) rfl (q := 496) rfl ?_
          refine g_isub C at_496 (q := 497) rfl ?_
          refine g_imul C at_497 (q := 498) rfl ?_
          refine g_iadd C at_498 (q := 499) rfl ?_
          refine g_bipush C at_499 (z := (8 : Int32)) rfl (q := 501) rfl ?_
          refine g_iload C at_501 (v := d2) rfl (q := 503) rfl ?_
          refine g_bipush C at_503 (z := (48 : Int32)) rfl (q := 505) rfl ?_
          refine g_isub C at_505 (q := 506) rfl ?_
          refine g_imul C at_506 (q := 507) rfl ?_
          refine g_iadd C at_507 (q := 508) rfl ?_
          refine g_bipush C at_508 (z := (7 : Int32)) rfl (q := 510) rfl ?_
          refine g_iload C at_510 (v := d3) rfl (q := 512) rfl ?_
          refine g_bipush C at_512 (z := (48 : Int32)) rfl (q := 514) rfl ?_
          refine g_isub C at_514 (q := 515) rfl ?_
          refine g_imul C at_515 (q := 516) rfl ?_
          refine g_iadd C at_516 (q := 517) rfl ?_
          refine g_bipush C at_517 (z := (6 : Int32)) rfl (q := 519) rfl ?_
          refine g_iload C at_519 (v := d4) rfl (q := 521) rfl ?_
          refine g_bipush C at_521 (z := (48 : Int32)) rfl (q := 523) rfl ?_
          refine g_isub C at_523 (q := 524) rfl ?_
          refine g_imul C at_524 (q := 525) rfl ?_
          refine g_iadd C at_525 (q := 526) rfl ?_
          refine g_iconst C at_526 (z := (5 : Int32)) rfl (q := 527) rfl ?_
          refine g_iload C at_527 (v := d5) rfl (q := 529) rfl ?_
          refine g_bipush C at_529 (z := (48 : Int32)) rfl (q := 531) rfl ?_
          refine g_isub C at_531 (q := 532) rfl ?_
          refine g_imul C at_532 (q := 533) rfl ?_
          refine g_iadd C at_533 (q := 534) rfl ?_
          refine g_iconst C at_534 (z := (4 : Int32)) rfl (q := 535) rfl ?_
          refine g_iload C at_535 (v := d6) rfl (q := 537) rfl ?_
          refine g_bipush C at_537 (z := (48 : Int32)) rfl (q := 539) rfl ?_
          refine g_isub C at_539 (q := 540) rfl ?_
          refine g_imul C at_540 (q := 541) rfl ?_
          refine g_iadd C at_541 (q := 542) rfl ?_
          refine g_iconst C at_542 (z := (3 : Int32)) rfl (q := 543) rfl ?_
          refine g_iload C at_543 (v := d7) rfl (q := 545) rfl ?_
          refine g_bipush C at_545 (z := (48 : Int32)) rfl (q := 547) rfl ?_
          refine g_isub C at_547 (q := 548) rfl ?_
          refine g_imul C at_548 (q := 549) rfl ?_
          refine g_iadd C at_549 (q := 550) rfl ?_
          refine g_iconst C at_550 (z := (2 : Int32)) rfl (q := 551) rfl ?_
          refine g_iload C at_551 (v := d8) rfl (q := 553) rfl ?_
          refine g_bipush C at_553 (z := (48 : Int32)) rfl (q := 555) rfl ?_
          refine g_isub C at_555 (q := 556) rfl ?_
          refine g_imul C at_556 (q := 557) rfl ?_
          refine g_iadd C at_557 (q := 558) rfl ?_
          refine g_iload C at_558 (v := d9) rfl (q := 560) rfl ?_
          refine g_bipush C at_560 (z := (48 : Int32)) rfl (q := 562) rfl ?_
          refine g_isub C at_562 (q := 563) rfl ?_
          refine g_iadd C at_563 (q := 564) rfl ?_
          refine g_istore C at_564 (L' := #[.val (.long la), .second, .val (.long lb), .second, .val (.int lc), .val (.int d0), .val (.int d1), .val (.int d2), .val (.int d3), .val (.int d4), .val (.int d5), .val (.int d6), .val (.int d7), .val (.int d8), .val (.int d9), .val (.int sel), .val (.int ex), .val (.ref sq), .unset, .val (.int (1 : Int32)), .val (.int (((((((((((10 : Int32) * (d0 - (48 : Int32))) + ((9 : Int32) * (d1 - (48 : Int32)))) + ((8 : Int32) * (d2 - (48 : Int32)))) + ((7 : Int32) * (d3 - (48 : Int32)))) + ((6 : Int32) * (d4 - (48 : Int32)))) + ((5 : Int32) * (d5 - (48 : Int32)))) + ((4 : Int32) * (d6 - (48 : Int32)))) + ((3 : Int32) * (d7 - (48 : Int32)))) + ((2 : Int32) * (d8 - (48 : Int32)))) + (d9 - (48 : Int32))))]) rfl (q := 566) rfl ?_
          refine g_iload C at_566 (v := (((((((((((10 : Int32) * (d0 - (48 : Int32))) + ((9 : Int32) * (d1 - (48 : Int32)))) + ((8 : Int32) * (d2 - (48 : Int32)))) + ((7 : Int32) * (d3 - (48 : Int32)))) + ((6 : Int32) * (d4 - (48 : Int32)))) + ((5 : Int32) * (d5 - (48 : Int32)))) + ((4 : Int32) * (d6 - (48 : Int32)))) + ((3 : Int32) * (d7 - (48 : Int32)))) + ((2 : Int32) * (d8 - (48 : Int32)))) + (d9 - (48 : Int32)))) rfl (q := 568) rfl ?_
          refine g_bipush C at_568 (z := (11 : Int32)) rfl (q := 570) rfl ?_
          refine g_irem C at_570 (by decide) (q := 571) rfl ?_
          have nv := nv10 d0 d1 d2 d3 d4 d5 d6 d7 d8 d9 g0 g1 g2 g3 g4 g5 g6 g7 g8 g9
          refine g_if_ne C at_571 (q' := 578) (q := 574) (by decide) (by decide) rfl (fun m0 => ?_) (fun m0 => ?_)
          ·
            refine g_iconst C at_578 (z := (0 : Int32)) rfl (q := 579) rfl ?_
            refine g_istore C at_579 (L' := #[.val (.long la), .second, .val (.long lb), .second, .val (.int lc), .val (.int d0), .val (.int d1), .val (.int d2), .val (.int d3), .val (.int d4), .val (.int d5), .val (.int d6), .val (.int d7), .val (.int d8), .val (.int d9), .val (.int sel), .val (.int ex), .val (.ref sq), .val (.int (0 : Int32)), .val (.int (1 : Int32)), .val (.int (((((((((((10 : Int32) * (d0 - (48 : Int32))) + ((9 : Int32) * (d1 - (48 : Int32)))) + ((8 : Int32) * (d2 - (48 : Int32)))) + ((7 : Int32) * (d3 - (48 : Int32)))) + ((6 : Int32) * (d4 - (48 : Int32)))) + ((5 : Int32) * (d5 - (48 : Int32)))) + ((4 : Int32) * (d6 - (48 : Int32)))) + ((3 : Int32) * (d7 - (48 : Int32)))) + ((2 : Int32) * (d8 - (48 : Int32)))) + (d9 - (48 : Int32))))]) rfl (q := 581) rfl ?_
            refine g_goto C at_581 (q := 587) (by decide) (by decide) ?_
            exact Go.more (k' := 6) (n' := 64) (by decide) (by decide) (tailS l Z a0 G cz fm LG0 hq n0 Xq' la lb lc d0 d1 d2 d3 d4 d5 d6 d7 d8 d9 sel ex 0 _ _ C (Sw.mono Ktq.1) sq [d0, d1, d2, d3, d4, d5, d6, d7, d8, d9] Sq (Or.inr ⟨fun q => m0 (nv.mp q), rfl⟩))
          ·
            refine g_iconst C at_574 (z := (1 : Int32)) rfl (q := 575) rfl ?_
            refine g_goto C at_575 (q := 579) (by decide) (by decide) ?_
            refine g_istore C at_579 (L' := #[.val (.long la), .second, .val (.long lb), .second, .val (.int lc), .val (.int d0), .val (.int d1), .val (.int d2), .val (.int d3), .val (.int d4), .val (.int d5), .val (.int d6), .val (.int d7), .val (.int d8), .val (.int d9), .val (.int sel), .val (.int ex), .val (.ref sq), .val (.int (1 : Int32)), .val (.int (1 : Int32)), .val (.int (((((((((((10 : Int32) * (d0 - (48 : Int32))) + ((9 : Int32) * (d1 - (48 : Int32)))) + ((8 : Int32) * (d2 - (48 : Int32)))) + ((7 : Int32) * (d3 - (48 : Int32)))) + ((6 : Int32) * (d4 - (48 : Int32)))) + ((5 : Int32) * (d5 - (48 : Int32)))) + ((4 : Int32) * (d6 - (48 : Int32)))) + ((3 : Int32) * (d7 - (48 : Int32)))) + ((2 : Int32) * (d8 - (48 : Int32)))) + (d9 - (48 : Int32))))]) rfl (q := 581) rfl ?_
            refine g_goto C at_581 (q := 587) (by decide) (by decide) ?_
            exact Go.more (k' := 6) (n' := 64) (by decide) (by decide) (tailS l Z a0 G cz fm LG0 hq n0 Xq' la lb lc d0 d1 d2 d3 d4 d5 d6 d7 d8 d9 sel ex 1 _ _ C (Sw.mono Ktq.1) sq [d0, d1, d2, d3, d4, d5, d6, d7, d8, d9] Sq (Or.inl ⟨nv.mpr m0, rfl⟩))
        ·
          refine g_new C at_244 (wd9 hw) (wd10 hw) (wd11 hw) (by decide) (by decide) (q := 247) rfl (fun sq hnq qnq Enq Anq Dnq => ?_)
          refine g_dup C at_247 rfl (q := 248) rfl ?_
          refine g_bipush C at_248 (z := (11 : Int32)) rfl (q := 250) rfl ?_
          refine g_newarray C at_250 (wd12 hw) (by decide) (cap := 11) (by decide) (by decide) (by decide) (by decide) (q := 252) rfl (fun bq hbq kbq qbq Ebq Abq => ?_)
          have Bq : Av Z hbq bq .char 11 (fun _ => .int 0) := Av.new Abq (by decide)
          have Xq := Ext.tr (Ext.tr X0 Enq) Ebq
          have gsq : n0 ≤ sq := by rw [qnq]; exact Z0
          have gbq : n0 ≤ bq := by rw [qbq]; exact Nat.le_trans Z0 Enq.1
          have Exq := Anq.ext Ebq
          have nsbq : sq ≠ bq := by rw [qbq]; exact Nat.ne_of_lt Anq.lt
          have FVq := (Dnq (Or.inr (wd38 hw)) (ty := .array .byte) (by decide)).ext Ebq
          have FCq := (Dnq (Or.inr (wd36 hw)) (ty := .byte) (by decide)).ext Ebq
          have Kq := Ext.kp (Ext.tr Enq Ebq) []
          have gzq : Z.heap.size ≤ bq := by rw [qbq]; exact Nat.le_trans X0.1 Enq.1
          have g0q : h0.size ≤ bq := by rw [qbq]; exact Enq.1
          refine g_dup C at_252 rfl (q := 253) rfl ?_
          refine g_iconst C at_253 (z := (0 : Int32)) rfl (q := 254) rfl ?_
          refine g_iload C at_254 (v := d0) rfl (q := 256) rfl ?_
          refine g_castore C at_256 (i := 0) Bq (by decide) rfl gbq (q := 257) rfl (fun hq_0 Wq_0 Bq => ?_)
          have Exq := Exq.wr Wq_0
          have FVq := FVq.other Wq_0 (Or.inl nsbq)
          have FCq := FCq.other Wq_0 (Or.inl nsbq)
          have Xq := Ext.wr Xq Wq_0 gzq
          have Kq := Kq.wr Wq_0 (Or.inr g0q)
          refine g_dup C at_257 rfl (q := 258) rfl ?_
          refine g_iconst C at_258 (z := (1 : Int32)) rfl (q := 259) rfl ?_
          refine g_iload C at_259 (v := d1) rfl (q := 261) rfl ?_
          refine g_castore C at_261 (i := 1) Bq (by decide) rfl gbq (q := 262) rfl (fun hq_1 Wq_1 Bq => ?_)
          have Exq := Exq.wr Wq_1
          have FVq := FVq.other Wq_1 (Or.inl nsbq)
          have FCq := FCq.other Wq_1 (Or.inl nsbq)
          have Xq := Ext.wr Xq Wq_1 gzq
          have Kq := Kq.wr Wq_1 (Or.inr g0q)
          refine g_dup C at_262 rfl (q := 263) rfl ?_
          refine g_iconst C at_263 (z := (2 : Int32)) rfl (q := 264) rfl ?_
          refine g_iload C at_264 (v := d2) rfl (q := 266) rfl ?_
          refine g_castore C at_266 (i := 2) Bq (by decide) rfl gbq (q := 267) rfl (fun hq_2 Wq_2 Bq => ?_)
          have Exq := Exq.wr Wq_2
          have FVq := FVq.other Wq_2 (Or.inl nsbq)
          have FCq := FCq.other Wq_2 (Or.inl nsbq)
          have Xq := Ext.wr Xq Wq_2 gzq
          have Kq := Kq.wr Wq_2 (Or.inr g0q)
          refine g_dup C at_267 rfl (q := 268) rfl ?_
          refine g_iconst C at_268 (z := (3 : Int32)) rfl (q := 269) rfl ?_
          refine g_iload C at_269 (v := d3) rfl (q := 271) rfl ?_
          refine g_castore C at_271 (i := 3) Bq (by decide) rfl gbq (q := 272) rfl (fun hq_3 Wq_3 Bq => ?_)
          have Exq := Exq.wr Wq_3
          have FVq := FVq.other Wq_3 (Or.inl nsbq)
          have FCq := FCq.other Wq_3 (Or.inl nsbq)
          have Xq := Ext.wr Xq Wq_3 gzq
          have Kq := Kq.wr Wq_3 (Or.inr g0q)
          refine g_dup C at_272 rfl (q := 273) rfl ?_
          refine g_iconst C at_273 (z := (4 : Int32)) rfl (q := 274) rfl ?_
          refine g_iload C at_274 (v := d4) rfl (q := 276) rfl ?_
          refine g_castore C at_276 (i := 4) Bq (by decide) rfl gbq (q := 277) rfl (fun hq_4 Wq_4 Bq => ?_)
          have Exq := Exq.wr Wq_4
          have FVq := FVq.other Wq_4 (Or.inl nsbq)
          have FCq := FCq.other Wq_4 (Or.inl nsbq)
          have Xq := Ext.wr Xq Wq_4 gzq
          have Kq := Kq.wr Wq_4 (Or.inr g0q)
          refine g_dup C at_277 rfl (q := 278) rfl ?_
          refine g_iconst C at_278 (z := (5 : Int32)) rfl (q := 279) rfl ?_
          refine g_iload C at_279 (v := d5) rfl (q := 281) rfl ?_
          refine g_castore C at_281 (i := 5) Bq (by decide) rfl gbq (q := 282) rfl (fun hq_5 Wq_5 Bq => ?_)
          have Exq := Exq.wr Wq_5
          have FVq := FVq.other Wq_5 (Or.inl nsbq)
          have FCq := FCq.other Wq_5 (Or.inl nsbq)
          have Xq := Ext.wr Xq Wq_5 gzq
          have Kq := Kq.wr Wq_5 (Or.inr g0q)
          refine g_dup C at_282 rfl (q := 283) rfl ?_
          refine g_bipush C at_283 (z := (6 : Int32)) rfl (q := 285) rfl ?_
          refine g_iload C at_285 (v := d6) rfl (q := 287) rfl ?_
          refine g_castore C at_287 (i := 6) Bq (by decide) rfl gbq (q := 288) rfl (fun hq_6 Wq_6 Bq => ?_)
          have Exq := Exq.wr Wq_6
          have FVq := FVq.other Wq_6 (Or.inl nsbq)
          have FCq := FCq.other Wq_6 (Or.inl nsbq)
          have Xq := Ext.wr Xq Wq_6 gzq
          have Kq := Kq.wr Wq_6 (Or.inr g0q)
          refine g_dup C at_288 rfl (q := 289) rfl ?_
          refine g_bipush C at_289 (z := (7 : Int32)) rfl (q := 291) rfl ?_
          refine g_iload C at_291 (v := d7) rfl (q := 293) rfl ?_
          refine g_castore C at_293 (i := 7) Bq (by decide) rfl gbq (q := 294) rfl (fun hq_7 Wq_7 Bq => ?_)
          have Exq := Exq.wr Wq_7
          have FVq := FVq.other Wq_7 (Or.inl nsbq)
          have FCq := FCq.other Wq_7 (Or.inl nsbq)
          have Xq := Ext.wr Xq Wq_7 gzq
          have Kq := Kq.wr Wq_7 (Or.inr g0q)
          refine g_dup C at_294 rfl (q := 295) rfl ?_
          refine g_bipush C at_295 (z := (8 : Int32)) rfl (q := 297) rfl ?_
          refine g_iload C at_297 (v := d8) rfl (q := 299) rfl ?_
          refine g_castore C at_299 (i := 8) Bq (by decide) rfl gbq (q := 300) rfl (fun hq_8 Wq_8 Bq => ?_)
          have Exq := Exq.wr Wq_8
          have FVq := FVq.other Wq_8 (Or.inl nsbq)
          have FCq := FCq.other Wq_8 (Or.inl nsbq)
          have Xq := Ext.wr Xq Wq_8 gzq
          have Kq := Kq.wr Wq_8 (Or.inr g0q)
          refine g_dup C at_300 rfl (q := 301) rfl ?_
          refine g_bipush C at_301 (z := (9 : Int32)) rfl (q := 303) rfl ?_
          refine g_iload C at_303 (v := d9) rfl (q := 305) rfl ?_
          refine g_castore C at_305 (i := 9) Bq (by decide) rfl gbq (q := 306) rfl (fun hq_9 Wq_9 Bq => ?_)
          have Exq := Exq.wr Wq_9
          have FVq := FVq.other Wq_9 (Or.inl nsbq)
          have FCq := FCq.other Wq_9 (Or.inl nsbq)
          have Xq := Ext.wr Xq Wq_9 gzq
          have Kq := Kq.wr Wq_9 (Or.inr g0q)
          refine g_dup C at_306 rfl (q := 307) rfl ?_
          refine g_bipush C at_307 (z := (10 : Int32)) rfl (q := 309) rfl ?_
          refine g_iload C at_309 (v := ex) rfl (q := 311) rfl ?_
          refine g_castore C at_311 (i := 10) Bq (by decide) rfl gbq (q := 312) rfl (fun hq_10 Wq_10 Bq => ?_)
          have Exq := Exq.wr Wq_10
          have FVq := FVq.other Wq_10 (Or.inl nsbq)
          have FCq := FCq.other Wq_10 (Or.inl nsbq)
          have Xq := Ext.wr Xq Wq_10 gzq
          have Kq := Kq.wr Wq_10 (Or.inr g0q)
          have hpcq : ∀ c ∈ ([d0, d1, d2, d3, d4, d5, d6, d7, d8, d9, ex] : List Int32), ¬ c < 0 ∧ ¬ (255 : Int32) < c := by
            intro c hc
            simp only [List.mem_cons, List.not_mem_nil, or_false] at hc
            rcases hc with rfl | rfl | rfl | rfl | rfl | rfl | rfl | rfl | rfl | rfl | rfl
            · exact q0
            · exact q1
            · exact q2
            · exact q3
            · exact q4
            · exact q5
            · exact q6
            · exact q7
            · exact q8
            · exact q9
            · exact qex
          have Zcq : n0 ≤ hq_10.size := Nat.le_trans Z0 Kq.1
          refine g_callI C (W := 1) (argsL := [(.ref bq)]) (rest := [(.ref sq)]) (a := sq) at_312 rfl (wd13 hw) (wd14 hw) (wd15 hw) (by decide) (bk_str (cs := [d0, d1, d2, d3, d4, d5, d6, d7, d8, d9, ex]) C hw (wd10 hw) gsq Zcq Exq FVq FCq Bq (fun j hj => by
                obtain rfl | rfl | rfl | rfl | rfl | rfl | rfl | rfl | rfl | rfl | rfl : j = 0 ∨ j = 1 ∨ j = 2 ∨ j = 3 ∨ j = 4 ∨ j = 5 ∨ j = 6 ∨ j = 7 ∨ j = 8 ∨ j = 9 ∨ j = 10 := by omega
                all_goals simp [byte_nar q0, byte_nar q1, byte_nar q2, byte_nar q3, byte_nar q4, byte_nar q5, byte_nar q6, byte_nar q7, byte_nar q8, byte_nar q9, byte_nar qex]) (LG0.1.ext Xq) LG0.2.1 rfl (by decide) (by decide) hpcq (by decide) (by decide)) (by decide) (by decide) rfl (lenOf pd10 rfl) rfl rfl (q := 315) rfl (fun vq hq hQq => ?_)
          obtain ⟨rfl, Ksq, Esq, Csq, taq, kbq, -, -, -, Vsq, Asq⟩ := hQq
          refine ⟨[(.ref sq)], rfl, ?_⟩
          have Sq : SL Z hq sq [d0, d1, d2, d3, d4, d5, d6, d7, d8, d9, ex] := SL.of (n := 11) rfl (by decide) Esq Csq Vsq Asq hpcq
          have Ktq : Keep h0 hq [] := Kq.trans Ksq (fun x hx => Or.inr (by cases List.mem_singleton.mp hx; rw [qnq]; exact Nat.le_refl _))
          have Xq' := Ext.keep X0 Ktq (by simp)
          refine g_astore C at_315 rfl (L' := #[.val (.long la), .second, .val (.long lb), .second, .val (.int lc), .val (.int d0), .val (.int d1), .val (.int d2), .val (.int d3), .val (.int d4), .val (.int d5), .val (.int d6), .val (.int d7), .val (.int d8), .val (.int d9), .val (.int sel), .val (.int ex), .val (.ref sq), .unset, .unset, .unset]) rfl (q := 317) rfl ?_
          refine g_iconst C at_317 (z := (0 : Int32)) rfl (q := 318) rfl ?_
          refine g_istore C at_318 (L' := #[.val (.long la), .second, .val (.long lb), .second, .val (.int lc), .val (.int d0), .val (.int d1), .val (.int d2), .val (.int d3), .val (.int d4), .val (.int d5), .val (.int d6), .val (.int d7), .val (.int d8), .val (.int d9), .val (.int sel), .val (.int ex), .val (.ref sq), .val (.int (0 : Int32)), .unset, .unset]) rfl (q := 320) rfl ?_
          refine g_goto C at_320 (q := 587) (by decide) (by decide) ?_
          exact Go.more (k' := 6) (n' := 64) (by decide) (by decide) (tailS l Z a0 G cz fm LG0 hq n0 Xq' la lb lc d0 d1 d2 d3 d4 d5 d6 d7 d8 d9 sel ex 0 .unset .unset C (Sw.mono Ktq.1) sq [d0, d1, d2, d3, d4, d5, d6, d7, d8, d9, ex] Sq (Or.inr ⟨fun q => absurd q.1 (by simp), rfl⟩))
      ·
        refine g_new C at_171 (wd9 hw) (wd10 hw) (wd11 hw) (by decide) (by decide) (q := 174) rfl (fun sq hnq qnq Enq Anq Dnq => ?_)
        refine g_dup C at_174 rfl (q := 175) rfl ?_
        refine g_bipush C at_175 (z := (9 : Int32)) rfl (q := 177) rfl ?_
        refine g_newarray C at_177 (wd12 hw) (by decide) (cap := 9) (by decide) (by decide) (by decide) (by decide) (q := 179) rfl (fun bq hbq kbq qbq Ebq Abq => ?_)
        have Bq : Av Z hbq bq .char 9 (fun _ => .int 0) := Av.new Abq (by decide)
        have Xq := Ext.tr (Ext.tr X0 Enq) Ebq
        have gsq : n0 ≤ sq := by rw [qnq]; exact Z0
        have gbq : n0 ≤ bq := by rw [qbq]; exact Nat.le_trans Z0 Enq.1
        have Exq := Anq.ext Ebq
        have nsbq : sq ≠ bq := by rw [qbq]; exact Nat.ne_of_lt Anq.lt
        have FVq := (Dnq (Or.inr (wd38 hw)) (ty := .array .byte) (by decide)).ext Ebq
        have FCq := (Dnq (Or.inr (wd36 hw)) (ty := .byte) (by decide)).ext Ebq
        have Kq := Ext.kp (Ext.tr Enq Ebq) []
        have gzq : Z.heap.size ≤ bq := by rw [qbq]; exact Nat.le_trans X0.1 Enq.1
        have g0q : h0.size ≤ bq := by rw [qbq]; exact Enq.1
        refine g_dup C at_179 rfl (q := 180) rfl ?_
        refine g_iconst C at_180 (z := (0 : Int32)) rfl (q := 181) rfl ?_
        refine g_iload C at_181 (v := d0) rfl (q := 183) rfl ?_
        refine g_castore C at_183 (i := 0) Bq (by decide) rfl gbq (q := 184) rfl (fun hq_0 Wq_0 Bq => ?_)
        have Exq := Exq.wr Wq_0
        have FVq := FVq.other Wq_0 (Or.inl nsbq)
        have FCq := FCq.other Wq_0 (Or.inl nsbq)
        have Xq := Ext.wr Xq Wq_0 gzq
        have Kq := Kq.wr Wq_0 (Or.inr g0q)
        refine g_dup C at_184 rfl (q := 185) rfl ?_
        refine g_iconst C at_185 (z := (1 : Int32)) rfl (q := 186) rfl ?_
        refine g_iload C at_186 (v := d1) rfl (q := 188) rfl ?_
        refine g_castore C at_188 (i := 1) Bq (by decide) rfl gbq (q := 189) rfl (fun hq_1 Wq_1 Bq => ?_)
        have Exq := Exq.wr Wq_1
        have FVq := FVq.other Wq_1 (Or.inl nsbq)
        have FCq := FCq.other Wq_1 (Or.inl nsbq)
        have Xq := Ext.wr Xq Wq_1 gzq
        have Kq := Kq.wr Wq_1 (Or.inr g0q)
        refine g_dup C at_189 rfl (q := 190) rfl ?_
        refine g_iconst C at_190 (z := (2 : Int32)) rfl (q := 191) rfl ?_
        refine g_iload C at_191 (v := d2) rfl (q := 193) rfl ?_
        refine g_castore C at_193 (i := 2) Bq (by decide) rfl gbq (q := 194) rfl (fun hq_2 Wq_2 Bq => ?_)
        have Exq := Exq.wr Wq_2
        have FVq := FVq.other Wq_2 (Or.inl nsbq)
        have FCq := FCq.other Wq_2 (Or.inl nsbq)
        have Xq := Ext.wr Xq Wq_2 gzq
        have Kq := Kq.wr Wq_2 (Or.inr g0q)
        refine g_dup C at_194 rfl (q := 195) rfl ?_
        refine g_iconst C at_195 (z := (3 : Int32)) rfl (q := 196) rfl ?_
        refine g_iload C at_196 (v := d3) rfl (q := 198) rfl ?_
        refine g_castore C at_198 (i := 3) Bq (by decide) rfl gbq (q := 199) rfl (fun hq_3 Wq_3 Bq => ?_)
        have Exq := Exq.wr Wq_3
        have FVq := FVq.other Wq_3 (Or.inl nsbq)
        have FCq := FCq.other Wq_3 (Or.inl nsbq)
        have Xq := Ext.wr Xq Wq_3 gzq
        have Kq := Kq.wr Wq_3 (Or.inr g0q)
        refine g_dup C at_199 rfl (q := 200) rfl ?_
        refine g_iconst C at_200 (z := (4 : Int32)) rfl (q := 201) rfl ?_
        refine g_iload C at_201 (v := d4) rfl (q := 203) rfl ?_
        refine g_castore C at_203 (i := 4) Bq (by decide) rfl gbq (q := 204) rfl (fun hq_4 Wq_4 Bq => ?_)
        have Exq := Exq.wr Wq_4
        have FVq := FVq.other Wq_4 (Or.inl nsbq)
        have FCq := FCq.other Wq_4 (Or.inl nsbq)
        have Xq := Ext.wr Xq Wq_4 gzq
        have Kq := Kq.wr Wq_4 (Or.inr g0q)
        refine g_dup C at_204 rfl (q := 205) rfl ?_
        refine g_iconst C at_205 (z := (5 : Int32)) rfl (q := 206) rfl ?_
        refine g_iload C at_206 (v := d5) rfl (q := 208) rfl ?_
        refine g_castore C at_208 (i := 5) Bq (by decide) rfl gbq (q := 209) rfl (fun hq_5 Wq_5 Bq => ?_)
        have Exq := Exq.wr Wq_5
        have FVq := FVq.other Wq_5 (Or.inl nsbq)
        have FCq := FCq.other Wq_5 (Or.inl nsbq)
        have Xq := Ext.wr Xq Wq_5 gzq
        have Kq := Kq.wr Wq_5 (Or.inr g0q)
        refine g_dup C at_209 rfl (q := 210) rfl ?_
        refine g_bipush C at_210 (z := (6 : Int32)) rfl (q := 212) rfl ?_
        refine g_iload C at_212 (v := d6) rfl (q := 214) rfl ?_
        refine g_castore C at_214 (i := 6) Bq (by decide) rfl gbq (q := 215) rfl (fun hq_6 Wq_6 Bq => ?_)
        have Exq := Exq.wr Wq_6
        have FVq := FVq.other Wq_6 (Or.inl nsbq)
        have FCq := FCq.other Wq_6 (Or.inl nsbq)
        have Xq := Ext.wr Xq Wq_6 gzq
        have Kq := Kq.wr Wq_6 (Or.inr g0q)
        refine g_dup C at_215 rfl (q := 216) rfl ?_
        refine g_bipush C at_216 (z := (7 : Int32)) rfl (q := 218) rfl ?_
        refine g_iload C at_218 (v := d7) rfl (q := 220) rfl ?_
        refine g_castore C at_220 (i := 7) Bq (by decide) rfl gbq (q := 221) rfl (fun hq_7 Wq_7 Bq => ?_)
        have Exq := Exq.wr Wq_7
        have FVq := FVq.other Wq_7 (Or.inl nsbq)
        have FCq := FCq.other Wq_7 (Or.inl nsbq)
        have Xq := Ext.wr Xq Wq_7 gzq
        have Kq := Kq.wr Wq_7 (Or.inr g0q)
        refine g_dup C at_221 rfl (q := 222) rfl ?_
        refine g_bipush C at_222 (z := (8 : Int32)) rfl (q := 224) rfl ?_
        refine g_iload C at_224 (v := d8) rfl (q := 226) rfl ?_
        refine g_castore C at_226 (i := 8) Bq (by decide) rfl gbq (q := 227) rfl (fun hq_8 Wq_8 Bq => ?_)
        have Exq := Exq.wr Wq_8
        have FVq := FVq.other Wq_8 (Or.inl nsbq)
        have FCq := FCq.other Wq_8 (Or.inl nsbq)
        have Xq := Ext.wr Xq Wq_8 gzq
        have Kq := Kq.wr Wq_8 (Or.inr g0q)
        have hpcq : ∀ c ∈ ([d0, d1, d2, d3, d4, d5, d6, d7, d8] : List Int32), ¬ c < 0 ∧ ¬ (255 : Int32) < c := by
          intro c hc
          simp only [List.mem_cons, List.not_mem_nil, or_false] at hc
          rcases hc with rfl | rfl | rfl | rfl | rfl | rfl | rfl | rfl | rfl
          · exact q0
          · exact q1
          · exact q2
          · exact q3
          · exact q4
          · exact q5
          · exact q6
          · exact q7
          · exact q8
        have Zcq : n0 ≤ hq_8.size := Nat.le_trans Z0 Kq.1
        refine g_callI C (W := 1) (argsL := [(.ref bq)]) (rest := [(.ref sq)]) (a := sq) at_227 rfl (wd13 hw) (wd14 hw) (wd15 hw) (by decide) (bk_str (cs := [d0, d1, d2, d3, d4, d5, d6, d7, d8]) C hw (wd10 hw) gsq Zcq Exq FVq FCq Bq (fun j hj => by
              obtain rfl | rfl | rfl | rfl | rfl | rfl | rfl | rfl | rfl : j = 0 ∨ j = 1 ∨ j = 2 ∨ j = 3 ∨ j = 4 ∨ j = 5 ∨ j = 6 ∨ j = 7 ∨ j = 8 := by omega
              all_goals simp [byte_nar q0, byte_nar q1, byte_nar q2, byte_nar q3, byte_nar q4, byte_nar q5, byte_nar q6, byte_nar q7, byte_nar q8]) (LG0.1.ext Xq) LG0.2.1 rfl (by decide) (by decide) hpcq (by decide) (by decide)) (by decide) (by decide) rfl (lenOf pd10 rfl) rfl rfl (q := 230) rfl (fun vq hq hQq => ?_)
        obtain ⟨rfl, Ksq, Esq, Csq, taq, kbq, -, -, -, Vsq, Asq⟩ := hQq
        refine ⟨[(.ref sq)], rfl, ?_⟩
        have Sq : SL Z hq sq [d0, d1, d2, d3, d4, d5, d6, d7, d8] := SL.of (n := 9) rfl (by decide) Esq Csq Vsq Asq hpcq
        have Ktq : Keep h0 hq [] := Kq.trans Ksq (fun x hx => Or.inr (by cases List.mem_singleton.mp hx; rw [qnq]; exact Nat.le_refl _))
        have Xq' := Ext.keep X0 Ktq (by simp)
        refine g_astore C at_230 rfl (L' := #[.val (.long la), .second, .val (.long lb), .second, .val (.int lc), .val (.int d0), .val (.int d1), .val (.int d2), .val (.int d3), .val (.int d4), .val (.int d5), .val (.int d6), .val (.int d7), .val (.int d8), .val (.int d9), .val (.int sel), .val (.int ex), .val (.ref sq), .unset, .unset, .unset]) rfl (q := 232) rfl ?_
        refine g_iconst C at_232 (z := (0 : Int32)) rfl (q := 233) rfl ?_
        refine g_istore C at_233 (L' := #[.val (.long la), .second, .val (.long lb), .second, .val (.int lc), .val (.int d0), .val (.int d1), .val (.int d2), .val (.int d3), .val (.int d4), .val (.int d5), .val (.int d6), .val (.int d7), .val (.int d8), .val (.int d9), .val (.int sel), .val (.int ex), .val (.ref sq), .val (.int (0 : Int32)), .unset, .unset]) rfl (q := 235) rfl ?_
        refine g_goto C at_235 (q := 587) (by decide) (by decide) ?_
        exact Go.more (k' := 6) (n' := 64) (by decide) (by decide) (tailS l Z a0 G cz fm LG0 hq n0 Xq' la lb lc d0 d1 d2 d3 d4 d5 d6 d7 d8 d9 sel ex 0 .unset .unset C (Sw.mono Ktq.1) sq [d0, d1, d2, d3, d4, d5, d6, d7, d8] Sq (Or.inr ⟨fun q => absurd q.1 (by simp), rfl⟩))
    ·
      refine g_new C at_147 (wd9 hw) (wd10 hw) (wd11 hw) (by decide) (by decide) (q := 150) rfl (fun sa h1 q1 E1 A1 D1 => ?_)
      refine g_dup C at_150 rfl (q := 151) rfl ?_
      refine g_iconst C at_151 (z := (0 : Int32)) rfl (q := 152) rfl ?_
      refine g_newarray C at_152 (wd12 hw) (by decide) (cap := 0) (by decide) (by decide) (by decide) (by decide) (q := 154) rfl (fun ba h2 k2 q2 E2 A2 => ?_)
      have B2 : Av Z h2 ba .char 0 (fun _ => .int 0) := Av.new A2 (by decide)
      have X2 := Ext.tr (Ext.tr X0 E1) E2
      have Z2 : n0 ≤ h2.size := Nat.le_trans Z0 (Nat.le_trans E1.1 E2.1)
      have Sw2 := Sw.mono (Nat.le_trans E1.1 E2.1)
      refine g_callIW C (W := 1) (argsL := [(.ref ba)]) (rest := [(.ref sa)]) (a := sa) Sw2 at_154 rfl (wd13 hw) (wd14 hw) (wd11 hw) (wd15 hw) (by decide) (c_init1e l Z a0 G sa ba h2 n0 Z2 (by rw [q1]; exact Z0) X2 (A1.ext E2) _ _ ((D1 (Or.inr (wd38 hw)) (ty := .array .byte) (by decide)).ext E2) ((D1 (Or.inr (wd36 hw)) (ty := .byte) (by decide)).ext E2) _ B2) (by decide) (by decide) (by decide) (by decide) rfl (lenOf pd10 rfl) rfl rfl (q := 157) rfl (fun vm' hW' => IB.warm hP0 hW') (fun v3 vm1 h3 hQ3 C1 Sw1 hW393 => ?_)
      obtain ⟨rfl, K3, S3, I3⟩ := hQ3
      refine ⟨[(.ref sa)], rfl, ?_⟩
      have X3 := Ext.keep X2 K3 (fun x hx => by cases List.mem_singleton.mp hx; rw [q1]; exact X0.1)
      refine g_astore C1 at_157 rfl (L' := #[.val (.long la), .second, .val (.long lb), .second, .val (.int lc), .val (.int d0), .val (.int d1), .val (.int d2), .val (.int d3), .val (.int d4), .val (.int d5), .val (.int d6), .val (.int d7), .val (.int d8), .val (.int d9), .val (.int sel), .val (.int ex), .val (.ref sa), .unset, .unset, .unset]) rfl (q := 159) rfl ?_
      refine g_iconst C1 at_159 (z := (0 : Int32)) rfl (q := 160) rfl ?_
      refine g_istore C1 at_160 (L' := #[.val (.long la), .second, .val (.long lb), .second, .val (.int lc), .val (.int d0), .val (.int d1), .val (.int d2), .val (.int d3), .val (.int d4), .val (.int d5), .val (.int d6), .val (.int d7), .val (.int d8), .val (.int d9), .val (.int sel), .val (.int ex), .val (.ref sa), .val (.int (0 : Int32)), .unset, .unset]) rfl (q := 162) rfl ?_
      refine g_goto C1 at_162 (q := 587) (by decide) (by decide) ?_
      exact Go.more (k' := 6) (n' := 64) (by decide) (by decide) (tailS l Z a0 G cz fm LG0 h3 n0 X3 la lb lc d0 d1 d2 d3 d4 d5 d6 d7 d8 d9 sel ex 0 .unset .unset C1 Sw1 sa [] S3 (Or.inr ⟨fun q => absurd q.1 (by decide), rfl⟩))
  ·
    refine g_aconst_null C at_132 (q := 133) rfl ?_
    refine g_astore C at_133 rfl (L' := #[.val (.long la), .second, .val (.long lb), .second, .val (.int lc), .val (.int d0), .val (.int d1), .val (.int d2), .val (.int d3), .val (.int d4), .val (.int d5), .val (.int d6), .val (.int d7), .val (.int d8), .val (.int d9), .val (.int sel), .val (.int ex), .val .null, .unset, .unset, .unset]) rfl (q := 135) rfl ?_
    refine g_iconst C at_135 (z := (0 : Int32)) rfl (q := 136) rfl ?_
    refine g_istore C at_136 (L' := #[.val (.long la), .second, .val (.long lb), .second, .val (.int lc), .val (.int d0), .val (.int d1), .val (.int d2), .val (.int d3), .val (.int d4), .val (.int d5), .val (.int d6), .val (.int d7), .val (.int d8), .val (.int d9), .val (.int sel), .val (.int ex), .val .null, .val (.int (0 : Int32)), .unset, .unset]) rfl (q := 138) rfl ?_
    refine g_goto C at_138 (q := 587) (by decide) (by decide) ?_
    exact Go.more (k' := 6) (n' := 64) (by decide) (by decide) (tailN l Z a0 G cz fm LG0 h0 n0 X0 la lb lc d0 d1 d2 d3 d4 d5 d6 d7 d8 d9 sel ex 0 .unset .unset C Sw rfl)
theorem eq_int' {t : Term} {n : Int32} {args : Array Value} {s : State} (h : (Cond.eq t (.int n)).before args s = true) : t.eval args s none [] s = some (.int n) := by
  have h := Cond.before_iff.mp h
  simp only [Cond.value, Term.int_eval] at h
  cases e : t.eval args s none [] s with
  | none => simp [e] at h
  | some v => cases v <;> simp [e] at h ⊢; exact h
theorem field_eval {t : Term} {C f d : String} {args : Array Value} {s : State} {a : Addr} (e : t.eval args s none [] s = some (.ref a)) : (Term.field t C f d).eval args s none [] s = s.fieldOf? a C f d := by
  simp [Term.eval, e]
set_option maxRecDepth 65536 in
set_option maxHeartbeats 40000000 in
theorem comes_1 {Post : Tables → Env → Array Value → State → Outcome → State → Prop} (hpost : ∀ tb e args s v u, (limb_1_1.after args s (.returned v) u = true ∧ limb_1_2.after args s (.returned v) u = true ∧ True) → ReturnedEndW s (.returned v) u (Jvm.fieldLocs frame_1_writes args s ++ Jvm.arrayLocs frame_1_arrays args s ++ Jvm.staticLocs frame_1_statics s) 16 1152 → Post tb e args s (.returned v) u) :
    ArmFor flags0 classFile x code maxLocals ret World_1 tables_1 room_1 Calls_1 rest_1 Pre_1 Post := by
  intro l hfl _ _ p e ha hc hk s m args below hf hA hF happ hP
  obtain ⟨hcalls, hrest, hpre⟩ := hP
  obtain ⟨-, -, -, hnamed, -, -, -, hat⟩ := (Spec.applies_iff hf).mp happ
  obtain ⟨hg, hn⟩ := and_e (Cond.before_iff.mp (show (Jvm.Cond.and given_1 narrow_1).before args s = true from hpre))
  obtain ⟨hcount, hg0⟩ := and_e hg
  obtain ⟨ha0, hg1⟩ := and_e hg0
  obtain ⟨ha1, hg2⟩ := and_e hg1
  have ha2 := hg2
  obtain ⟨w0, w1, w2, rfl⟩ : ∃ w0 w1 w2 : Value, args = #[w0, w1, w2] := by
    have hs : args.size = 3 := by simpa [Cond.value, given_1] using hcount
    obtain ⟨L⟩ := args
    match L, hs with
    | [w0, w1, w2], _ => exact ⟨w0, w1, w2, rfl⟩
  have hw := fun d (hd : d ∈ tables_1) => atoms_spec (ws := Jvm.Cond.code x code maxLocals ret :: tables_1) hat d (List.mem_cons_of_mem _ hd)
  obtain ⟨hsets, hown0⟩ := atoms_of _ (rest_1_c_eq ▸ (show rest_1_c.before _ s = true from hrest))
  have hfit : Fit s := fun {y c} hc i hi => by
    obtain ⟨ha, rfl⟩ := Array.getElem?_eq_some_iff.mp hc
    have q := List.all_eq_true.mp ((Array.all_eq_true_iff_forall_mem.mp hF) _ (Array.getElem_mem ha)) i (List.mem_range.mpr hi)
    simpa [Array.getElem?_eq_getElem hi] using q
  obtain ⟨x0, ea0⟩ := isL_v ha0
  obtain rfl : w0 = (.long x0) := Option.some.inj ea0
  obtain ⟨x1, ea1⟩ := isL_v ha1
  obtain rfl : w1 = (.long x1) := Option.some.inj ea1
  obtain ⟨x2, ea2⟩ := is_v ha2
  obtain rfl : w2 = (.int x2) := Option.some.inj ea2
  have n5' := hsets _ (List.mem_of_getElem? (i := 2) rfl)
  have n5 := not_v (Cond.before_iff.mp n5')
  obtain ⟨cz, e10⟩ := is_v (Cond.before_iff.mp (hsets _ (List.mem_of_getElem? (i := 1) rfl)))
  have S0 : Sta s s.heap "java/lang/String" "COMPACT_STRINGS" "Z" (.int cz) := Sta.start e10 (Or.inl (hsets _ (List.mem_of_getElem? (i := 0) rfl)))
  have hcz : ¬ (cz = (0 : Int32)) := gotF (Cond.eq_ints e10 (Term.int_eval (0))) n5
  obtain ⟨fm, e11, hfm⟩ := isR_v (Cond.before_iff.mp (hsets _ (List.mem_of_getElem? (i := 8) rfl)))
  have S1 : Sta s s.heap "jdk/internal/util/Preconditions" "SIOOBE_FORMATTER" "Ljava/util/function/BiFunction;" fm := Sta.start e11 (Or.inl (hsets _ (List.mem_of_getElem? (i := 7) rfl)))
  have hk7 : Jvm.Lit.constHeld s "java/lang/String" 7 := hcalls.1 ("java/lang/String", 7) (by simp [consts_1])
  obtain ⟨n, o, h1, h2, h3, _, L, rfl, ⟨rfl, N⟩, hq⟩ := c_law l s _ ⟨hw, hk7, n5'⟩ cz fm ⟨S0, hcz, S1, hfm⟩ x0 x1 x2 s.heap s.heap.size (Nat.le_refl _) (Ext.rfl' _) p e ha hc hk s m _ below hf (app_less hf ((Spec.applies_iff_loose hf).mp happ).1) ⟨rfl, State.Warmed39.refl s, rfl, IB.start⟩ trivial
  refine ⟨n, _, h1, h2, h3, hpost _ _ _ _ _ _ ⟨Cond.after_iff.mpr rfl, Cond.after_iff.mpr (eq_i res_at (Term.int_eval (1)) rfl), trivial⟩ ⟨hq.1, hq.2.1, hq.2.2.1, (hq.2.2.2.sift fun y hy => Or.inr (N y hy)).mono (by decide) (by decide)⟩⟩
theorem main_1_1 : Claimed_1_1 := comes_1 fun _ _ _ _ _ _ h hF => ⟨h.1, hF⟩
theorem main_1_2 : Claimed_1_2 := comes_1 fun _ _ _ _ _ _ h hF => ⟨h.2.1, hF⟩
end Jvm.Pilot.@@N@@
namespace Jvm.Pilot.@@N@@
open Jvm Jvm.ClassFile Sem Op Lib Jvm.Free Jvm.Stand Jvm.Pilot.@@N@@.Jvm.D
/-! MADE BY PROGRAM (witnessworld.py) out of the Statement's table words and the real class files: 20 classes; the members and pool entries that the words name. The judged class is class 1, her method 3. -/
namespace start1
open Jvm.ClassFile
def u (s : String) : CpInfo := .utf8 (stringToUtf16 s)
/-- a pool by its gaps: so many unusable entries, then the entry; so many at the end -/
def gap : Nat → List CpInfo → List CpInfo
  | 0, r => r
  | n + 1, r => .unusable :: gap n r
def poolList (es : List (Nat × CpInfo)) (last : Nat) : List CpInfo := es.foldr (fun e r => gap e.1 (e.2 :: r)) (gap last [])
def pool (es : List (Nat × CpInfo)) (last : Nat) : Array CpInfo := ⟨poolList es last⟩
def fileOf (pool : Array CpInfo) (this : Nat) (attrs : Array Attribute := #[]) (ms : Array MethodInfo := #[]) (fl : Nat := 33) (sup : Nat := 0) (ifs : Array Nat := #[]) (fds : Array FieldInfo := #[]) : ClassFile where
  minorVersion := 0
  majorVersion := 65
  constantPool := pool
  accessFlags := fl
  thisClass := this
  superClass := sup
  interfaces := ifs
  fields := fds
  methods := ms
  attributes := attrs
def plain (name : String) (sup : Option ClassId) : Class where
  name := name
  kind := .ordinary
  loader := none
  accessFlags := 33
  super := sup
  interfaces := #[]
  cf := none
  fields := #[]
  methods := #[]
  instanceTypes := #[]
  staticTypes := #[]
  resolved := #[]
  callSites := []
  init := .initialized
  statics := none
  mirror := none

def pool0 : Array CpInfo := pool [(5, u "<init>"), (0, u "()V"), (1, .class_ 10), (1, u "java/lang/Object")] 113

def k0c0 : Code := { maxStack := 0, maxLocals := 1, code := object_method_1_code, exceptionTable := #[], attributes := #[] }
def k0m0 : Method := { name := "<init>", desc := "()V", sig := { parameters := [], returnType := none }, accessFlags := 1, code := some k0c0 }
/-- java/lang/Object -/
def k0 : Class := { plain "java/lang/Object" none with
  accessFlags := 33
  interfaces := #[]
  cf := some (fileOf pool0 8 #[] #[{ accessFlags := 1, nameIndex := 5, descriptorIndex := 6, attributes := #[] }] 33 0 #[] #[])
  fields := #[]
  methods := #[k0m0]
  instanceTypes := #[]
  staticTypes := #[]
  resolved := Array.replicate 124 none
  statics := none }

def pool1 : Array CpInfo := pool [(2, .class_ 4), (1, u "java/lang/Object"), (0, u "<init>"), (0, u "()V"), (0, .long 255), (1, .methodref 10 11), (0, .class_ 12), (0, .nameAndType 13 14), (0, u "com/example/recordweave/recordweave/store/NhsNumberIsValidPinLaw"), (0, u "pick"), (0, u "(JIJI)C"), (0, .class_ 16), (0, u "java/lang/String"), (0, .methodref 15 18), (0, .nameAndType 5 19), (0, u "([C)V"), (0, .methodref 10 21), (0, .nameAndType 22 23), (0, u "dig"), (0, u "(C)Z"), (0, .methodref 25 26), (0, .class_ 27), (0, .nameAndType 28 29), (0, u "com/example/recordweave/recordweave/store/NhsNumber"), (0, u "isValid"), (0, u "(Ljava/lang/String;)Z"), (3, u "law"), (0, u "(JJI)Z")] 2

def k1m0 : Method := { name := "<init>", desc := "()V", sig := { parameters := [], returnType := none }, accessFlags := 2, code := none }
def k1c1 : Code := { maxStack := 4, maxLocals := 7, code := method_2_code, exceptionTable := #[], attributes := #[] }
def k1m1 : Method := { name := "pick", desc := "(JIJI)C", sig := { parameters := [.long, .int, .long, .int], returnType := some .char }, accessFlags := 10, code := some k1c1 }
def k1c2 : Code := { maxStack := 2, maxLocals := 1, code := method_3_code, exceptionTable := #[], attributes := #[] }
def k1m2 : Method := { name := "dig", desc := "(C)Z", sig := { parameters := [.char], returnType := some .boolean }, accessFlags := 10, code := some k1c2 }
def k1c3 : Code := { maxStack := 6, maxLocals := 21, code := code, exceptionTable := #[], attributes := #[] }
def k1m3 : Method := { name := "law", desc := "(JJI)Z", sig := { parameters := [.long, .long, .int], returnType := some .boolean }, accessFlags := 9, code := some k1c3 }
/-- com/example/recordweave/recordweave/store/NhsNumberIsValidPinLaw -/
def k1 : Class := { plain "com/example/recordweave/recordweave/store/NhsNumberIsValidPinLaw" (some 0) with
  accessFlags := 49
  interfaces := #[]
  cf := some (fileOf pool1 10 #[] #[{ accessFlags := 2, nameIndex := 5, descriptorIndex := 6, attributes := #[] }, { accessFlags := 10, nameIndex := 13, descriptorIndex := 14, attributes := #[] }, { accessFlags := 10, nameIndex := 22, descriptorIndex := 23, attributes := #[] }, { accessFlags := 9, nameIndex := 33, descriptorIndex := 34, attributes := #[] }] 49 2 #[] #[])
  fields := #[]
  methods := #[k1m0, k1m1, k1m2, k1m3]
  instanceTypes := #[]
  staticTypes := #[]
  resolved := Array.replicate 37 none
  statics := none }

def pool2 : Array CpInfo := pool [(2, .class_ 4), (1, u "java/lang/Object"), (0, u "<init>"), (0, u "()V"), (0, .methodref 8 9), (0, .class_ 10), (0, .nameAndType 11 12), (0, u "java/lang/String"), (0, u "length"), (0, u "()I"), (0, .class_ 14), (0, u "com/example/recordweave/recordweave/store/NhsNumber"), (0, .methodref 8 16), (0, .nameAndType 17 18), (0, u "charAt"), (0, u "(I)C"), (0, u "LENGTH"), (0, u "I"), (4, u "isValid"), (0, u "(Ljava/lang/String;)Z")] 3

def k2m0 : Method := { name := "<init>", desc := "()V", sig := { parameters := [], returnType := none }, accessFlags := 2, code := none }
def k2c1 : Code := { maxStack := 4, maxLocals := 4, code := prog_2_method_2_code, exceptionTable := #[], attributes := #[] }
def k2m1 : Method := { name := "isValid", desc := "(Ljava/lang/String;)Z", sig := { parameters := [(.object "java/lang/String")], returnType := some .boolean }, accessFlags := 9, code := some k2c1 }
/-- com/example/recordweave/recordweave/store/NhsNumber -/
def k2 : Class := { plain "com/example/recordweave/recordweave/store/NhsNumber" (some 0) with
  accessFlags := 49
  interfaces := #[]
  cf := some (fileOf pool2 13 #[] #[{ accessFlags := 2, nameIndex := 5, descriptorIndex := 6, attributes := #[] }, { accessFlags := 9, nameIndex := 25, descriptorIndex := 26, attributes := #[] }] 49 2 #[] #[{ accessFlags := 26, nameIndex := 19, descriptorIndex := 20, attributes := #[] }])
  fields := #[{ name := "LENGTH", type := .int, accessFlags := 26, slot := 0, constantValue := 0 }]
  methods := #[k2m0, k2m1]
  instanceTypes := #[]
  staticTypes := #[.int]
  resolved := Array.replicate 30 none
  statics := none }

def pool3 : Array CpInfo := pool [(1, .class_ 2), (0, u "java/io/Serializable"), (0, .class_ 4), (0, u "java/lang/Object")] 2

/-- java/io/Serializable -/
def k3 : Class := { plain "java/io/Serializable" (some 0) with
  accessFlags := 1537
  interfaces := #[]
  cf := some (fileOf pool3 1 #[] #[] 1537 3 #[] #[])
  fields := #[]
  methods := #[]
  instanceTypes := #[]
  staticTypes := #[]
  resolved := Array.replicate 7 none
  statics := none }

def pool4 : Array CpInfo := pool [(1, .class_ 2), (0, u "java/lang/Comparable"), (0, .class_ 4), (0, u "java/lang/Object")] 7

/-- java/lang/Comparable -/
def k4 : Class := { plain "java/lang/Comparable" (some 0) with
  accessFlags := 1537
  interfaces := #[]
  cf := some (fileOf pool4 1 #[] #[] 1537 3 #[] #[])
  fields := #[]
  methods := #[]
  instanceTypes := #[]
  staticTypes := #[]
  resolved := Array.replicate 12 none
  statics := none }

def pool5 : Array CpInfo := pool [(2, .class_ 4), (1, u "java/lang/CharSequence"), (42, .class_ 48), (0, u "java/lang/CharSequence$1CodePointIterator"), (10, .class_ 60), (0, u "java/lang/CharSequence$1CharIterator"), (5, .class_ 67), (0, u "java/lang/Object")] 63

/-- java/lang/CharSequence -/
def k5 : Class := { plain "java/lang/CharSequence" (some 0) with
  accessFlags := 1537
  interfaces := #[]
  cf := some (fileOf pool5 2 #[.nestMembers #[47, 59]] #[] 1537 66 #[] #[])
  fields := #[]
  methods := #[]
  instanceTypes := #[]
  staticTypes := #[]
  resolved := Array.replicate 131 none
  statics := none }

def pool6 : Array CpInfo := pool [(1, .class_ 2), (0, u "java/lang/constant/Constable"), (0, .class_ 4), (0, u "java/lang/Object")] 6

/-- java/lang/constant/Constable -/
def k6 : Class := { plain "java/lang/constant/Constable" (some 0) with
  accessFlags := 1537
  interfaces := #[]
  cf := some (fileOf pool6 1 #[] #[] 1537 3 #[] #[])
  fields := #[]
  methods := #[]
  instanceTypes := #[]
  staticTypes := #[]
  resolved := Array.replicate 11 none
  statics := none }

def pool7 : Array CpInfo := pool [(1, .class_ 2), (0, u "java/lang/constant/ConstantDesc"), (0, .class_ 4), (0, u "java/lang/Object")] 32

/-- java/lang/constant/ConstantDesc -/
def k7 : Class := { plain "java/lang/constant/ConstantDesc" (some 0) with
  accessFlags := 1537
  interfaces := #[]
  cf := some (fileOf pool7 1 #[] #[] 1537 3 #[] #[])
  fields := #[]
  methods := #[]
  instanceTypes := #[]
  staticTypes := #[]
  resolved := Array.replicate 37 none
  statics := none }

def pool8 : Array CpInfo := pool [(1, .methodref 2 3), (0, .class_ 4), (0, .nameAndType 5 6), (0, u "java/lang/Object"), (0, u "<init>"), (0, u "()V"), (0, .string 8), (0, u ""), (0, .fieldref 10 11), (0, .class_ 12), (0, .nameAndType 13 14), (0, u "java/lang/String"), (0, u "value"), (0, u "[B"), (0, .fieldref 10 16), (0, .nameAndType 17 18), (0, u "coder"), (0, u "B"), (2, u "hash"), (0, u "I"), (2, u "hashIsZero"), (0, u "Z"), (0, .methodref 10 28), (0, .nameAndType 5 29), (0, u "([CIILjava/lang/Void;)V"), (8, .fieldref 10 39), (0, .nameAndType 40 26), (0, u "COMPACT_STRINGS"), (1, .class_ 44), (1, u "java/lang/StringUTF16"), (0, u "compress"), (1, .methodref 42 48), (0, .nameAndType 49 50), (0, u "coderFromArrayLen"), (0, u "([BI)B"), (56, .class_ 109), (1, u "java/lang/StringLatin1"), (32, u "()Z"), (34, .methodref 42 178), (0, .nameAndType 45 179), (0, u "([CII)[B"), (154, u "()I"), (0, .methodref 10 336), (0, .nameAndType 17 337), (0, u "()B"), (25, u "([BI)C"), (27, u "(II)V"), (35, u "(I)C"), (64, .methodref 10 493), (0, .nameAndType 494 142), (0, u "isLatin1"), (0, .methodref 107 496), (0, .nameAndType 497 363), (0, u "charAt"), (3, u "checkIndex"), (5, u "length"), (67, .class_ 576), (0, u "java/lang/CharSequence"), (22, u "CASE_INSENSITIVE_ORDER"), (0, u "Ljava/util/Comparator;"), (409, u "([C)V"), (42, .fieldref 1054 1055), (0, .class_ 1056), (0, .nameAndType 1057 1058), (0, u "jdk/internal/util/Preconditions"), (0, u "SIOOBE_FORMATTER"), (0, u "Ljava/util/function/BiFunction;"), (0, .methodref 1054 1060), (0, .nameAndType 501 1061), (0, u "(IILjava/util/function/BiFunction;)I"), (39, u "serialPersistentFields"), (0, u "[Ljava/io/ObjectStreamField;"), (0, .class_ 1104), (0, u "java/lang/String$CaseInsensitiveComparator"), (1, .class_ 1107), (0, u "java/io/Serializable"), (0, .class_ 1109), (0, u "java/lang/Comparable"), (0, .class_ 1111), (0, u "java/lang/constant/Constable"), (0, .class_ 1113), (0, u "java/lang/constant/ConstantDesc"), (2, u "serialVersionUID"), (0, u "J"), (3, u "REPL"), (0, u "C"), (2, u "LATIN1"), (1, u "UTF16")] 323

def k8m0 : Method := { name := "<init>", desc := "()V", sig := { parameters := [], returnType := none }, accessFlags := 1, code := none }
def k8c1 : Code := { maxStack := 5, maxLocals := 2, code := jdk_42_method_3_code, exceptionTable := #[], attributes := #[] }
def k8m1 : Method := { name := "<init>", desc := "([C)V", sig := { parameters := [(.array .char)], returnType := none }, accessFlags := 1, code := some k8c1 }
def k8c2 : Code := { maxStack := 2, maxLocals := 1, code := jdk_42_method_54_code, exceptionTable := #[], attributes := #[] }
def k8m2 : Method := { name := "length", desc := "()I", sig := { parameters := [], returnType := some .int }, accessFlags := 1, code := some k8c2 }
def k8c3 : Code := { maxStack := 2, maxLocals := 2, code := jdk_42_method_56_code, exceptionTable := #[], attributes := #[] }
def k8m3 : Method := { name := "charAt", desc := "(I)C", sig := { parameters := [.int], returnType := some .char }, accessFlags := 1, code := some k8c3 }
def k8c4 : Code := { maxStack := 4, maxLocals := 6, code := jdk_42_method_149_code, exceptionTable := #[], attributes := #[] }
def k8m4 : Method := { name := "<init>", desc := "([CIILjava/lang/Void;)V", sig := { parameters := [(.array .char), .int, .int, (.object "java/lang/Void")], returnType := none }, accessFlags := 2, code := some k8c4 }
def k8c5 : Code := { maxStack := 1, maxLocals := 1, code := jdk_42_method_152_code, exceptionTable := #[], attributes := #[] }
def k8m5 : Method := { name := "coder", desc := "()B", sig := { parameters := [], returnType := some .byte }, accessFlags := 0, code := some k8c5 }
def k8c6 : Code := { maxStack := 1, maxLocals := 1, code := jdk_42_method_154_code, exceptionTable := #[], attributes := #[] }
def k8m6 : Method := { name := "isLatin1", desc := "()Z", sig := { parameters := [], returnType := some .boolean }, accessFlags := 0, code := some k8c6 }
def k8c7 : Code := { maxStack := 3, maxLocals := 2, code := jdk_42_method_155_code, exceptionTable := #[], attributes := #[] }
def k8m7 : Method := { name := "checkIndex", desc := "(II)V", sig := { parameters := [.int, .int], returnType := none }, accessFlags := 8, code := some k8c7 }
/-- java/lang/String -/
def k8 : Class := { plain "java/lang/String" (some 0) with
  accessFlags := 49
  interfaces := #[3, 4, 5, 6, 7]
  cf := some (fileOf pool8 10 #[.nestMembers #[1103]] #[{ accessFlags := 1, nameIndex := 5, descriptorIndex := 6, attributes := #[] }, { accessFlags := 1, nameIndex := 5, descriptorIndex := 1010, attributes := #[] }, { accessFlags := 1, nameIndex := 507, descriptorIndex := 334, attributes := #[] }, { accessFlags := 1, nameIndex := 497, descriptorIndex := 427, attributes := #[] }, { accessFlags := 2, nameIndex := 5, descriptorIndex := 29, attributes := #[] }, { accessFlags := 0, nameIndex := 17, descriptorIndex := 337, attributes := #[] }, { accessFlags := 0, nameIndex := 494, descriptorIndex := 142, attributes := #[] }, { accessFlags := 8, nameIndex := 501, descriptorIndex := 391, attributes := #[] }] 49 2 #[1106, 1108, 575, 1110, 1112] #[{ accessFlags := 18, nameIndex := 13, descriptorIndex := 14, attributes := #[] }, { accessFlags := 18, nameIndex := 17, descriptorIndex := 18, attributes := #[] }, { accessFlags := 2, nameIndex := 21, descriptorIndex := 22, attributes := #[] }, { accessFlags := 2, nameIndex := 25, descriptorIndex := 26, attributes := #[] }, { accessFlags := 26, nameIndex := 1116, descriptorIndex := 1117, attributes := #[] }, { accessFlags := 24, nameIndex := 40, descriptorIndex := 26, attributes := #[] }, { accessFlags := 26, nameIndex := 1101, descriptorIndex := 1102, attributes := #[] }, { accessFlags := 26, nameIndex := 1121, descriptorIndex := 1122, attributes := #[] }, { accessFlags := 25, nameIndex := 599, descriptorIndex := 600, attributes := #[] }, { accessFlags := 24, nameIndex := 1125, descriptorIndex := 18, attributes := #[] }, { accessFlags := 24, nameIndex := 1127, descriptorIndex := 18, attributes := #[] }])
  fields := #[{ name := "value", type := (.array .byte), accessFlags := 18, slot := 0, constantValue := 0 }, { name := "coder", type := .byte, accessFlags := 18, slot := 1, constantValue := 0 }, { name := "hash", type := .int, accessFlags := 2, slot := 2, constantValue := 0 }, { name := "hashIsZero", type := .boolean, accessFlags := 2, slot := 3, constantValue := 0 }, { name := "serialVersionUID", type := .long, accessFlags := 26, slot := 0, constantValue := 0 }, { name := "COMPACT_STRINGS", type := .boolean, accessFlags := 24, slot := 1, constantValue := 0 }, { name := "serialPersistentFields", type := (.array (.object "java/io/ObjectStreamField")), accessFlags := 26, slot := 2, constantValue := 0 }, { name := "REPL", type := .char, accessFlags := 26, slot := 3, constantValue := 0 }, { name := "CASE_INSENSITIVE_ORDER", type := (.object "java/util/Comparator"), accessFlags := 25, slot := 4, constantValue := 0 }, { name := "LATIN1", type := .byte, accessFlags := 24, slot := 5, constantValue := 0 }, { name := "UTF16", type := .byte, accessFlags := 24, slot := 6, constantValue := 0 }]
  methods := #[k8m0, k8m1, k8m2, k8m3, k8m4, k8m5, k8m6, k8m7]
  instanceTypes := #[(.array .byte), .byte, .int, .boolean]
  staticTypes := #[.long, .boolean, (.array (.object "java/io/ObjectStreamField")), .char, (.object "java/util/Comparator"), .byte, .byte]
  resolved := Array.replicate 1451 none
  statics := some 0 }

def pool9 : Array CpInfo := pool [(6, .class_ 8), (1, u "java/lang/Object"), (0, u "<init>"), (0, u "()V"), (1, .class_ 14), (1, u "java/lang/StringUTF16"), (31, u "$assertionsDisabled"), (0, u "Z"), (13, u "HI_BYTE_SHIFT"), (0, u "I"), (2, u "LO_BYTE_SHIFT"), (49, .methodref 12 116), (0, .nameAndType 117 118), (0, u "compress"), (0, u "([CI[BII)I"), (3, u "([CII)[B"), (138, u "coderFromArrayLen"), (0, u "([BI)B"), (106, .class_ 371), (1, u "java/lang/StringUTF16$LinesSpliterator"), (58, u "MAX_LENGTH"), (196, .class_ 628), (0, u "java/lang/StringUTF16$CodePointsSpliterator"), (0, .class_ 630), (0, u "java/lang/StringUTF16$CharsSpliterator")] 4

def k9m0 : Method := { name := "<init>", desc := "()V", sig := { parameters := [], returnType := none }, accessFlags := 0, code := none }
def k9c1 : Code := { maxStack := 2, maxLocals := 2, code := jdk_52_method_15_code, exceptionTable := #[], attributes := #[] }
def k9m1 : Method := { name := "coderFromArrayLen", desc := "([BI)B", sig := { parameters := [(.array .byte), .int], returnType := some .byte }, accessFlags := 8, code := some k9c1 }
def k9c2 : Code := { maxStack := 5, maxLocals := 6, code := jdk_52_method_16_code, exceptionTable := #[], attributes := #[] }
def k9m2 : Method := { name := "compress", desc := "([CII)[B", sig := { parameters := [(.array .char), .int, .int], returnType := some (.array .byte) }, accessFlags := 9, code := some k9c2 }
def k9c3 : Code := { maxStack := 3, maxLocals := 7, code := jdk_52_method_21_code, exceptionTable := #[], attributes := #[] }
def k9m3 : Method := { name := "compress", desc := "([CI[BII)I", sig := { parameters := [(.array .char), .int, (.array .byte), .int, .int], returnType := some .int }, accessFlags := 9, code := some k9c3 }
/-- java/lang/StringUTF16 -/
def k9 : Class := { plain "java/lang/StringUTF16" (some 0) with
  accessFlags := 48
  interfaces := #[]
  cf := some (fileOf pool9 12 #[.nestMembers #[627, 629, 369]] #[{ accessFlags := 0, nameIndex := 9, descriptorIndex := 10, attributes := #[] }, { accessFlags := 8, nameIndex := 261, descriptorIndex := 262, attributes := #[] }, { accessFlags := 9, nameIndex := 117, descriptorIndex := 122, attributes := #[] }, { accessFlags := 9, nameIndex := 117, descriptorIndex := 118, attributes := #[] }] 48 6 #[] #[{ accessFlags := 26, nameIndex := 61, descriptorIndex := 62, attributes := #[] }, { accessFlags := 26, nameIndex := 65, descriptorIndex := 62, attributes := #[] }, { accessFlags := 24, nameIndex := 430, descriptorIndex := 62, attributes := #[] }, { accessFlags := 4120, nameIndex := 46, descriptorIndex := 47, attributes := #[] }])
  fields := #[{ name := "HI_BYTE_SHIFT", type := .int, accessFlags := 26, slot := 0, constantValue := 0 }, { name := "LO_BYTE_SHIFT", type := .int, accessFlags := 26, slot := 1, constantValue := 0 }, { name := "MAX_LENGTH", type := .int, accessFlags := 24, slot := 2, constantValue := 0 }, { name := "$assertionsDisabled", type := .boolean, accessFlags := 4120, slot := 3, constantValue := 0 }]
  methods := #[k9m0, k9m1, k9m2, k9m3]
  instanceTypes := #[]
  staticTypes := #[.int, .int, .int, .boolean]
  resolved := Array.replicate 635 none
  statics := none }

def pool10 : Array CpInfo := pool [(1, .class_ 2), (0, u "java/lang/String"), (1, .class_ 6), (1, u "java/lang/Object"), (0, u "<init>"), (0, u "()V"), (0, .methodref 1 10), (0, .nameAndType 11 12), (0, u "checkIndex"), (0, u "(II)V"), (1, .class_ 16), (1, u "java/lang/StringLatin1"), (36, u "([BI)C"), (67, u "$assertionsDisabled"), (0, u "Z"), (98, .class_ 223), (1, u "java/lang/StringLatin1$LinesSpliterator"), (28, u "charAt"), (137, .class_ 391), (0, u "java/lang/StringLatin1$CharsSpliterator")] 3

def k10m0 : Method := { name := "<init>", desc := "()V", sig := { parameters := [], returnType := none }, accessFlags := 0, code := none }
def k10c1 : Code := { maxStack := 2, maxLocals := 2, code := jdk_43_method_2_code, exceptionTable := #[], attributes := #[] }
def k10m1 : Method := { name := "charAt", desc := "([BI)C", sig := { parameters := [(.array .byte), .int], returnType := some .char }, accessFlags := 9, code := some k10c1 }
/-- java/lang/StringLatin1 -/
def k10 : Class := { plain "java/lang/StringLatin1" (some 0) with
  accessFlags := 48
  interfaces := #[]
  cf := some (fileOf pool10 14 #[.nestMembers #[390, 221]] #[{ accessFlags := 0, nameIndex := 7, descriptorIndex := 8, attributes := #[] }, { accessFlags := 9, nameIndex := 252, descriptorIndex := 53, attributes := #[] }] 48 4 #[] #[{ accessFlags := 4120, nameIndex := 121, descriptorIndex := 122, attributes := #[] }])
  fields := #[{ name := "$assertionsDisabled", type := .boolean, accessFlags := 4120, slot := 0, constantValue := 0 }]
  methods := #[k10m0, k10m1]
  instanceTypes := #[]
  staticTypes := #[.boolean]
  resolved := Array.replicate 395 none
  statics := none }

def pool11 : Array CpInfo := pool [(2, .class_ 4), (1, u "java/lang/Object"), (0, u "<init>"), (0, u "()V"), (17, .class_ 26), (1, u "jdk/internal/util/Preconditions"), (6, u "checkIndex"), (21, .class_ 56), (0, u "jdk/internal/util/Preconditions$4"), (57, .class_ 115), (0, u "jdk/internal/util/Preconditions$1"), (7, u "SIOOBE_FORMATTER"), (0, u "Ljava/util/function/BiFunction;"), (0, .class_ 126), (0, u "jdk/internal/util/Preconditions$2"), (3, u "AIOOBE_FORMATTER"), (0, .class_ 132), (0, u "jdk/internal/util/Preconditions$3"), (3, u "IOOBE_FORMATTER"), (41, u "(IILjava/util/function/BiFunction;)I")] 15

def k11m0 : Method := { name := "<init>", desc := "()V", sig := { parameters := [], returnType := none }, accessFlags := 1, code := none }
def k11c1 : Code := { maxStack := 3, maxLocals := 3, code := jdk_41_method_11_code, exceptionTable := #[], attributes := #[] }
def k11m1 : Method := { name := "checkIndex", desc := "(IILjava/util/function/BiFunction;)I", sig := { parameters := [.int, .int, (.object "java/util/function/BiFunction")], returnType := some .int }, accessFlags := 9, code := some k11c1 }
/-- jdk/internal/util/Preconditions -/
def k11 : Class := { plain "jdk/internal/util/Preconditions" (some 0) with
  accessFlags := 33
  interfaces := #[]
  cf := some (fileOf pool11 24 #[.nestMembers #[55, 131, 125, 114]] #[{ accessFlags := 1, nameIndex := 5, descriptorIndex := 6, attributes := #[] }, { accessFlags := 9, nameIndex := 33, descriptorIndex := 178, attributes := #[] }] 33 2 #[] #[{ accessFlags := 25, nameIndex := 123, descriptorIndex := 124, attributes := #[] }, { accessFlags := 25, nameIndex := 130, descriptorIndex := 124, attributes := #[] }, { accessFlags := 25, nameIndex := 136, descriptorIndex := 124, attributes := #[] }])
  fields := #[{ name := "SIOOBE_FORMATTER", type := (.object "java/util/function/BiFunction"), accessFlags := 25, slot := 0, constantValue := 0 }, { name := "AIOOBE_FORMATTER", type := (.object "java/util/function/BiFunction"), accessFlags := 25, slot := 1, constantValue := 0 }, { name := "IOOBE_FORMATTER", type := (.object "java/util/function/BiFunction"), accessFlags := 25, slot := 2, constantValue := 0 }]
  methods := #[k11m0, k11m1]
  instanceTypes := #[]
  staticTypes := #[(.object "java/util/function/BiFunction"), (.object "java/util/function/BiFunction"), (.object "java/util/function/BiFunction")]
  resolved := Array.replicate 194 none
  statics := some 1 }

def pool12 : Array CpInfo := pool [(9, u "<init>"), (6, .class_ 18), (1, u "java/lang/Object"), (0, u "()V"), (1, .class_ 23), (1, u "jdk/internal/util/ArraysSupport"), (0, u "LOG2_ARRAY_LONG_INDEX_SCALE"), (0, u "I"), (2, u "U"), (0, u "Ljdk/internal/misc/Unsafe;"), (8, u "BIG_ENDIAN"), (0, u "Z"), (8, u "LOG2_BYTE_BIT_SIZE"), (4, u "LOG2_ARRAY_INT_INDEX_SCALE"), (54, u "JLA"), (0, u "Ljdk/internal/access/JavaLangAccess;"), (11, u "LOG2_ARRAY_BOOLEAN_INDEX_SCALE"), (9, u "LOG2_ARRAY_BYTE_INDEX_SCALE"), (5, u "LOG2_ARRAY_CHAR_INDEX_SCALE"), (5, u "LOG2_ARRAY_SHORT_INDEX_SCALE"), (18, u "LOG2_ARRAY_FLOAT_INDEX_SCALE"), (24, u "LOG2_ARRAY_DOUBLE_INDEX_SCALE"), (89, u "T_BOOLEAN"), (2, u "T_CHAR"), (1, u "T_FLOAT"), (1, u "T_DOUBLE"), (1, u "T_BYTE"), (1, u "T_SHORT"), (1, u "T_INT"), (1, u "T_LONG"), (1, u "SOFT_MAX_ARRAY_LENGTH")] 83

def k12m0 : Method := { name := "<init>", desc := "()V", sig := { parameters := [], returnType := none }, accessFlags := 2, code := none }
/-- jdk/internal/util/ArraysSupport -/
def k12 : Class := { plain "jdk/internal/util/ArraysSupport" (some 0) with
  accessFlags := 33
  interfaces := #[]
  cf := some (fileOf pool12 21 #[] #[{ accessFlags := 2, nameIndex := 9, descriptorIndex := 19, attributes := #[] }] 33 16 #[] #[{ accessFlags := 24, nameIndex := 28, descriptorIndex := 29, attributes := #[] }, { accessFlags := 26, nameIndex := 38, descriptorIndex := 39, attributes := #[] }, { accessFlags := 25, nameIndex := 121, descriptorIndex := 25, attributes := #[] }, { accessFlags := 25, nameIndex := 131, descriptorIndex := 25, attributes := #[] }, { accessFlags := 25, nameIndex := 137, descriptorIndex := 25, attributes := #[] }, { accessFlags := 25, nameIndex := 143, descriptorIndex := 25, attributes := #[] }, { accessFlags := 25, nameIndex := 53, descriptorIndex := 25, attributes := #[] }, { accessFlags := 25, nameIndex := 24, descriptorIndex := 25, attributes := #[] }, { accessFlags := 25, nameIndex := 162, descriptorIndex := 25, attributes := #[] }, { accessFlags := 25, nameIndex := 187, descriptorIndex := 25, attributes := #[] }, { accessFlags := 26, nameIndex := 48, descriptorIndex := 25, attributes := #[] }, { accessFlags := 25, nameIndex := 277, descriptorIndex := 25, attributes := #[] }, { accessFlags := 25, nameIndex := 280, descriptorIndex := 25, attributes := #[] }, { accessFlags := 25, nameIndex := 282, descriptorIndex := 25, attributes := #[] }, { accessFlags := 25, nameIndex := 284, descriptorIndex := 25, attributes := #[] }, { accessFlags := 25, nameIndex := 286, descriptorIndex := 25, attributes := #[] }, { accessFlags := 25, nameIndex := 288, descriptorIndex := 25, attributes := #[] }, { accessFlags := 25, nameIndex := 290, descriptorIndex := 25, attributes := #[] }, { accessFlags := 25, nameIndex := 292, descriptorIndex := 25, attributes := #[] }, { accessFlags := 26, nameIndex := 108, descriptorIndex := 109, attributes := #[] }, { accessFlags := 25, nameIndex := 294, descriptorIndex := 25, attributes := #[] }])
  fields := #[{ name := "U", type := (.object "jdk/internal/misc/Unsafe"), accessFlags := 24, slot := 0, constantValue := 0 }, { name := "BIG_ENDIAN", type := .boolean, accessFlags := 26, slot := 1, constantValue := 0 }, { name := "LOG2_ARRAY_BOOLEAN_INDEX_SCALE", type := .int, accessFlags := 25, slot := 2, constantValue := 0 }, { name := "LOG2_ARRAY_BYTE_INDEX_SCALE", type := .int, accessFlags := 25, slot := 3, constantValue := 0 }, { name := "LOG2_ARRAY_CHAR_INDEX_SCALE", type := .int, accessFlags := 25, slot := 4, constantValue := 0 }, { name := "LOG2_ARRAY_SHORT_INDEX_SCALE", type := .int, accessFlags := 25, slot := 5, constantValue := 0 }, { name := "LOG2_ARRAY_INT_INDEX_SCALE", type := .int, accessFlags := 25, slot := 6, constantValue := 0 }, { name := "LOG2_ARRAY_LONG_INDEX_SCALE", type := .int, accessFlags := 25, slot := 7, constantValue := 0 }, { name := "LOG2_ARRAY_FLOAT_INDEX_SCALE", type := .int, accessFlags := 25, slot := 8, constantValue := 0 }, { name := "LOG2_ARRAY_DOUBLE_INDEX_SCALE", type := .int, accessFlags := 25, slot := 9, constantValue := 0 }, { name := "LOG2_BYTE_BIT_SIZE", type := .int, accessFlags := 26, slot := 10, constantValue := 0 }, { name := "T_BOOLEAN", type := .int, accessFlags := 25, slot := 11, constantValue := 0 }, { name := "T_CHAR", type := .int, accessFlags := 25, slot := 12, constantValue := 0 }, { name := "T_FLOAT", type := .int, accessFlags := 25, slot := 13, constantValue := 0 }, { name := "T_DOUBLE", type := .int, accessFlags := 25, slot := 14, constantValue := 0 }, { name := "T_BYTE", type := .int, accessFlags := 25, slot := 15, constantValue := 0 }, { name := "T_SHORT", type := .int, accessFlags := 25, slot := 16, constantValue := 0 }, { name := "T_INT", type := .int, accessFlags := 25, slot := 17, constantValue := 0 }, { name := "T_LONG", type := .int, accessFlags := 25, slot := 18, constantValue := 0 }, { name := "JLA", type := (.object "jdk/internal/access/JavaLangAccess"), accessFlags := 26, slot := 19, constantValue := 0 }, { name := "SOFT_MAX_ARRAY_LENGTH", type := .int, accessFlags := 25, slot := 20, constantValue := 0 }]
  methods := #[k12m0]
  instanceTypes := #[]
  staticTypes := #[(.object "jdk/internal/misc/Unsafe"), .boolean, .int, .int, .int, .int, .int, .int, .int, .int, .int, .int, .int, .int, .int, .int, .int, .int, .int, (.object "jdk/internal/access/JavaLangAccess"), .int]
  resolved := Array.replicate 378 none
  statics := none }

def pool13 : Array CpInfo := pool [(1, u "java/lang/Cloneable"), (0, .class_ 1), (0, u "java/lang/Object"), (0, .class_ 3)] 3

/-- java/lang/Cloneable -/
def k13 : Class := { plain "java/lang/Cloneable" (some 0) with
  accessFlags := 1537
  interfaces := #[]
  cf := some (fileOf pool13 2 #[] #[] 1537 4 #[] #[])
  fields := #[]
  methods := #[]
  instanceTypes := #[]
  staticTypes := #[]
  resolved := Array.replicate 8 none
  statics := none }

/-- the primitive byte -/
def k14 : Class := { plain "byte" none with kind := .primitive 'B', accessFlags := 0x411 }
/-- [B -/
def k15 : Class := { plain "[B" (some 0) with kind := .array 14 .byte, interfaces := #[13, 3], accessFlags := 1041 }

/-- the primitive char -/
def k16 : Class := { plain "char" none with kind := .primitive 'C', accessFlags := 0x411 }
/-- [C -/
def k17 : Class := { plain "[C" (some 0) with kind := .array 16 .char, interfaces := #[13, 3], accessFlags := 1041 }

/-- the primitive int -/
def k18 : Class := { plain "int" none with kind := .primitive 'I', accessFlags := 0x411 }
/-- [I -/
def k19 : Class := { plain "[I" (some 0) with kind := .array 18 .int, interfaces := #[13, 3], accessFlags := 1041 }

def heap : Heap := #[{ cls := 8, slots := #[.long 0, .int 1, .null, .int 0, .null, .int 0, .int 0], vm := .statics 8 },
  { cls := 11, slots := #[.null, .null, .null], vm := .statics 11 }]
def classes : Array Class := #[k0, k1, k2, k3, k4, k5, k6, k7, k8, k9, k10, k11, k12, k13, k14, k15, k16, k17, k18, k19]
def interned : List (Array UInt16 × Addr) := []
def slotsUsed : Nat := 10
def theMethod : MethodId := ⟨1, 3⟩
def args0 : Array Value := #[.long 1, .long 2, .int 4]
def aboutOver (below : List Frame) : State where
  vm := { classes := classes, interned := interned.toArray }
  heap := heap
  slotsUsed := slotsUsed
  threads := #[{ frames := .invoking theMethod args0 :: below }]
def below0 : List Frame := [.native { method := ⟨0, 0⟩, args := #[] }]
def about1 : State := aboutOver below0
def p0 : Program := .bare "" "" ""
def e0 : Env := launch0.env 0 0 0
theorem w_frames : about1.frames = Frame.invoking theMethod args0 :: below0 := rfl
set_option maxRecDepth 65536 in
theorem w_args : argsFit about1.vm theMethod args0 = true := by decide +kernel
set_option maxRecDepth 65536 in
theorem w_heap : heapFits about1 = true := by decide +kernel
set_option maxRecDepth 65536 in
theorem w_runnable : about1.curStatus? = some .runnable := by decide +kernel
set_option maxRecDepth 65536 in
theorem w_alone : about1.alone = true := by decide +kernel
set_option maxRecDepth 65536 in
theorem w_named : about1.methodNamed? x = some theMethod := by decide +kernel
set_option maxRecDepth 65536 in
theorem w_hears : about1.hears theMethod below0 = true := by decide +kernel
set_option maxRecDepth 65536 in
theorem w_ripe : about1.ripe theMethod args0 below0 = true := by decide +kernel
theorem w_running : about1.status = .running := rfl
set_option maxRecDepth 65536 in
theorem w_room : about1.hasRoom e0.platform room_1 = true :=
  launch0.hasRoom_least _ room_1 (by decide +kernel) (by decide +kernel) (by decide +kernel) (by decide +kernel) (by decide +kernel) (by decide +kernel)
theorem allAtoms_all (ts : List Jvm.Cond) (a : Array Jvm.Value) (st : Jvm.State) : (allAtoms ts).before a st = ts.all (fun c => c.before a st) := by
  induction ts with
  | nil => rfl
  | cons c t ih =>
    show (Jvm.Cond.and c (allAtoms t)).before a st = _
    rw [Jvm.Cond.before_and, ih, List.all_cons]
def words1 : List Jvm.Cond := Jvm.Cond.code x code maxLocals ret :: tables_1
/-- a 'code' word, met by the world's own term for the bytes: nothing is compared byte by byte -/
theorem code_word {y : MethodName} {bytes : ByteArray} {mx : Nat} {rt : Option FieldType} {a : Array Value} {s : State} {m : MethodId} {meth : Method} {c : Code} (h1 : s.methodNamed? y = some m) (h2 : s.vm.method? m = some meth) (h3 : meth.code = some c) (h4 : c.code = bytes)
    (h5 : (c.maxLocals == mx && c.exceptionTable.isEmpty && decide (c.maxStack ≤ mostOperands) && decide (meth.sig.returnType = rt) && !meth.locks && decide (parseMethodDescriptor y.desc = some meth.sig)) = true) : (Jvm.Cond.code y bytes mx rt).before a s = true := by
  simp only [Bool.and_eq_true, beq_iff_eq, Bool.not_eq_true', decide_eq_true_eq] at h5
  obtain ⟨⟨⟨⟨⟨g1, g2⟩, g3⟩, g4⟩, g5⟩, g6⟩ := h5
  simp [Cond.before, Cond.holds, Cond.value, h1, h2, h3, h4, g1, g2, g3, g4, g5, g6]
def isCode : Jvm.Cond → Bool
  | .code _ _ _ _ => true
  | _ => false
theorem all_split {L : List Jvm.Cond} {P : Jvm.Cond → Bool} (h1 : L.all (fun c => isCode c || P c) = true) (h2 : ∀ c ∈ L.filter isCode, P c = true) : L.all P = true := by
  refine List.all_eq_true.mpr fun c hc => ?_
  have h := List.all_eq_true.mp h1 c hc
  rcases Bool.eq_false_or_eq_true (isCode c) with hi | hi
  · exact h2 c (List.mem_filter.mpr ⟨hc, hi⟩)
  · simpa [hi] using h
set_option maxRecDepth 65536 in
theorem w_c0 : (Jvm.Cond.code x code maxLocals ret).before args0 about1 = true := code_word (m := ⟨1, 3⟩) (meth := k1m3) (c := k1c3) (by decide +kernel) rfl rfl rfl (by decide +kernel)
set_option maxRecDepth 65536 in
theorem w_c1 : (Jvm.Cond.code ({ cls := "com/example/recordweave/recordweave/store/NhsNumberIsValidPinLaw", name := "pick", desc := "(JIJI)C" } : Jvm.MethodName) method_2_code (7 : Nat) (Option.some Jvm.ClassFile.FieldType.char)).before args0 about1 = true := code_word (m := ⟨1, 1⟩) (meth := k1m1) (c := k1c1) (by decide +kernel) rfl rfl rfl (by decide +kernel)
set_option maxRecDepth 65536 in
theorem w_c2 : (Jvm.Cond.code ({ cls := "com/example/recordweave/recordweave/store/NhsNumber", name := "isValid", desc := "(Ljava/lang/String;)Z" } : Jvm.MethodName) prog_2_method_2_code (4 : Nat) (Option.some Jvm.ClassFile.FieldType.boolean)).before args0 about1 = true := code_word (m := ⟨2, 1⟩) (meth := k2m1) (c := k2c1) (by decide +kernel) rfl rfl rfl (by decide +kernel)
set_option maxRecDepth 65536 in
theorem w_c3 : (Jvm.Cond.code ({ cls := "java/lang/String", name := "<init>", desc := "([C)V" } : Jvm.MethodName) jdk_42_method_3_code (2 : Nat) (Option.none : Option Jvm.ClassFile.FieldType)).before args0 about1 = true := code_word (m := ⟨8, 1⟩) (meth := k8m1) (c := k8c1) (by decide +kernel) rfl rfl rfl (by decide +kernel)
set_option maxRecDepth 65536 in
theorem w_c4 : (Jvm.Cond.code ({ cls := "java/lang/String", name := "<init>", desc := "([CIILjava/lang/Void;)V" } : Jvm.MethodName) jdk_42_method_149_code (6 : Nat) (Option.none : Option Jvm.ClassFile.FieldType)).before args0 about1 = true := code_word (m := ⟨8, 4⟩) (meth := k8m4) (c := k8c4) (by decide +kernel) rfl rfl rfl (by decide +kernel)
set_option maxRecDepth 65536 in
theorem w_c5 : (Jvm.Cond.code ({ cls := "java/lang/Object", name := "<init>", desc := "()V" } : Jvm.MethodName) object_method_1_code (1 : Nat) (Option.none : Option Jvm.ClassFile.FieldType)).before args0 about1 = true := code_word (m := ⟨0, 0⟩) (meth := k0m0) (c := k0c0) (by decide +kernel) rfl rfl rfl (by decide +kernel)
set_option maxRecDepth 65536 in
theorem w_c6 : (Jvm.Cond.code ({ cls := "java/lang/StringUTF16", name := "compress", desc := "([CII)[B" } : Jvm.MethodName) jdk_52_method_16_code (6 : Nat) (Option.some (Jvm.ClassFile.FieldType.array Jvm.ClassFile.FieldType.byte))).before args0 about1 = true := code_word (m := ⟨9, 2⟩) (meth := k9m2) (c := k9c2) (by decide +kernel) rfl rfl rfl (by decide +kernel)
set_option maxRecDepth 65536 in
theorem w_c7 : (Jvm.Cond.code ({ cls := "java/lang/StringUTF16", name := "compress", desc := "([CI[BII)I" } : Jvm.MethodName) jdk_52_method_21_code (7 : Nat) (Option.some Jvm.ClassFile.FieldType.int)).before args0 about1 = true := code_word (m := ⟨9, 3⟩) (meth := k9m3) (c := k9c3) (by decide +kernel) rfl rfl rfl (by decide +kernel)
set_option maxRecDepth 65536 in
theorem w_c8 : (Jvm.Cond.code ({ cls := "java/lang/StringUTF16", name := "coderFromArrayLen", desc := "([BI)B" } : Jvm.MethodName) jdk_52_method_15_code (2 : Nat) (Option.some Jvm.ClassFile.FieldType.byte)).before args0 about1 = true := code_word (m := ⟨9, 1⟩) (meth := k9m1) (c := k9c1) (by decide +kernel) rfl rfl rfl (by decide +kernel)
set_option maxRecDepth 65536 in
theorem w_c9 : (Jvm.Cond.code ({ cls := "com/example/recordweave/recordweave/store/NhsNumberIsValidPinLaw", name := "dig", desc := "(C)Z" } : Jvm.MethodName) method_3_code (1 : Nat) (Option.some Jvm.ClassFile.FieldType.boolean)).before args0 about1 = true := code_word (m := ⟨1, 2⟩) (meth := k1m2) (c := k1c2) (by decide +kernel) rfl rfl rfl (by decide +kernel)
set_option maxRecDepth 65536 in
theorem w_c10 : (Jvm.Cond.code ({ cls := "java/lang/String", name := "length", desc := "()I" } : Jvm.MethodName) jdk_42_method_54_code (1 : Nat) (Option.some Jvm.ClassFile.FieldType.int)).before args0 about1 = true := code_word (m := ⟨8, 2⟩) (meth := k8m2) (c := k8c2) (by decide +kernel) rfl rfl rfl (by decide +kernel)
set_option maxRecDepth 65536 in
theorem w_c11 : (Jvm.Cond.code ({ cls := "java/lang/String", name := "coder", desc := "()B" } : Jvm.MethodName) jdk_42_method_152_code (1 : Nat) (Option.some Jvm.ClassFile.FieldType.byte)).before args0 about1 = true := code_word (m := ⟨8, 5⟩) (meth := k8m5) (c := k8c5) (by decide +kernel) rfl rfl rfl (by decide +kernel)
set_option maxRecDepth 65536 in
theorem w_c12 : (Jvm.Cond.code ({ cls := "java/lang/String", name := "charAt", desc := "(I)C" } : Jvm.MethodName) jdk_42_method_56_code (2 : Nat) (Option.some Jvm.ClassFile.FieldType.char)).before args0 about1 = true := code_word (m := ⟨8, 3⟩) (meth := k8m3) (c := k8c3) (by decide +kernel) rfl rfl rfl (by decide +kernel)
set_option maxRecDepth 65536 in
theorem w_c13 : (Jvm.Cond.code ({ cls := "java/lang/String", name := "isLatin1", desc := "()Z" } : Jvm.MethodName) jdk_42_method_154_code (1 : Nat) (Option.some Jvm.ClassFile.FieldType.boolean)).before args0 about1 = true := code_word (m := ⟨8, 6⟩) (meth := k8m6) (c := k8c6) (by decide +kernel) rfl rfl rfl (by decide +kernel)
set_option maxRecDepth 65536 in
theorem w_c14 : (Jvm.Cond.code ({ cls := "java/lang/StringLatin1", name := "charAt", desc := "([BI)C" } : Jvm.MethodName) jdk_43_method_2_code (2 : Nat) (Option.some Jvm.ClassFile.FieldType.char)).before args0 about1 = true := code_word (m := ⟨10, 1⟩) (meth := k10m1) (c := k10c1) (by decide +kernel) rfl rfl rfl (by decide +kernel)
set_option maxRecDepth 65536 in
theorem w_c15 : (Jvm.Cond.code ({ cls := "java/lang/String", name := "checkIndex", desc := "(II)V" } : Jvm.MethodName) jdk_42_method_155_code (2 : Nat) (Option.none : Option Jvm.ClassFile.FieldType)).before args0 about1 = true := code_word (m := ⟨8, 7⟩) (meth := k8m7) (c := k8c7) (by decide +kernel) rfl rfl rfl (by decide +kernel)
set_option maxRecDepth 65536 in
theorem w_c16 : (Jvm.Cond.code ({ cls := "jdk/internal/util/Preconditions", name := "checkIndex", desc := "(IILjava/util/function/BiFunction;)I" } : Jvm.MethodName) jdk_41_method_11_code (3 : Nat) (Option.some Jvm.ClassFile.FieldType.int)).before args0 about1 = true := code_word (m := ⟨11, 1⟩) (meth := k11m1) (c := k11c1) (by decide +kernel) rfl rfl rfl (by decide +kernel)
def codes1 : List Jvm.Cond := [Jvm.Cond.code x code maxLocals ret, Jvm.Cond.code ({ cls := "com/example/recordweave/recordweave/store/NhsNumberIsValidPinLaw", name := "pick", desc := "(JIJI)C" } : Jvm.MethodName) method_2_code (7 : Nat) (Option.some Jvm.ClassFile.FieldType.char), Jvm.Cond.code ({ cls := "com/example/recordweave/recordweave/store/NhsNumber", name := "isValid", desc := "(Ljava/lang/String;)Z" } : Jvm.MethodName) prog_2_method_2_code (4 : Nat) (Option.some Jvm.ClassFile.FieldType.boolean), Jvm.Cond.code ({ cls := "java/lang/String", name := "<init>", desc := "([C)V" } : Jvm.MethodName) jdk_42_method_3_code (2 : Nat) (Option.none : Option Jvm.ClassFile.FieldType), Jvm.Cond.code ({ cls := "java/lang/String", name := "<init>", desc := "([CIILjava/lang/Void;)V" } : Jvm.MethodName) jdk_42_method_149_code (6 : Nat) (Option.none : Option Jvm.ClassFile.FieldType), Jvm.Cond.code ({ cls := "java/lang/Object", name := "<init>", desc := "()V" } : Jvm.MethodName) object_method_1_code (1 : Nat) (Option.none : Option Jvm.ClassFile.FieldType), Jvm.Cond.code ({ cls := "java/lang/StringUTF16", name := "compress", desc := "([CII)[B" } : Jvm.MethodName) jdk_52_method_16_code (6 : Nat) (Option.some (Jvm.ClassFile.FieldType.array Jvm.ClassFile.FieldType.byte)), Jvm.Cond.code ({ cls := "java/lang/StringUTF16", name := "compress", desc := "([CI[BII)I" } : Jvm.MethodName) jdk_52_method_21_code (7 : Nat) (Option.some Jvm.ClassFile.FieldType.int), Jvm.Cond.code ({ cls := "java/lang/StringUTF16", name := "coderFromArrayLen", desc := "([BI)B" } : Jvm.MethodName) jdk_52_method_15_code (2 : Nat) (Option.some Jvm.ClassFile.FieldType.byte), Jvm.Cond.code ({ cls := "com/example/recordweave/recordweave/store/NhsNumberIsValidPinLaw", name := "dig", desc := "(C)Z" } : Jvm.MethodName) method_3_code (1 : Nat) (Option.some Jvm.ClassFile.FieldType.boolean), Jvm.Cond.code ({ cls := "java/lang/String", name := "length", desc := "()I" } : Jvm.MethodName) jdk_42_method_54_code (1 : Nat) (Option.some Jvm.ClassFile.FieldType.int), Jvm.Cond.code ({ cls := "java/lang/String", name := "coder", desc := "()B" } : Jvm.MethodName) jdk_42_method_152_code (1 : Nat) (Option.some Jvm.ClassFile.FieldType.byte), Jvm.Cond.code ({ cls := "java/lang/String", name := "charAt", desc := "(I)C" } : Jvm.MethodName) jdk_42_method_56_code (2 : Nat) (Option.some Jvm.ClassFile.FieldType.char), Jvm.Cond.code ({ cls := "java/lang/String", name := "isLatin1", desc := "()Z" } : Jvm.MethodName) jdk_42_method_154_code (1 : Nat) (Option.some Jvm.ClassFile.FieldType.boolean), Jvm.Cond.code ({ cls := "java/lang/StringLatin1", name := "charAt", desc := "([BI)C" } : Jvm.MethodName) jdk_43_method_2_code (2 : Nat) (Option.some Jvm.ClassFile.FieldType.char), Jvm.Cond.code ({ cls := "java/lang/String", name := "checkIndex", desc := "(II)V" } : Jvm.MethodName) jdk_42_method_155_code (2 : Nat) (Option.none : Option Jvm.ClassFile.FieldType), Jvm.Cond.code ({ cls := "jdk/internal/util/Preconditions", name := "checkIndex", desc := "(IILjava/util/function/BiFunction;)I" } : Jvm.MethodName) jdk_41_method_11_code (3 : Nat) (Option.some Jvm.ClassFile.FieldType.int)]
set_option maxRecDepth 65536 in
theorem codes_eq : words1.filter isCode = codes1 := rfl
theorem w_codes : ∀ c ∈ words1.filter isCode, c.before args0 about1 = true := by
  rw [codes_eq]
  intro c hc
  simp only [codes1, List.mem_cons, List.not_mem_nil, or_false] at hc
  rcases hc with rfl | rfl | rfl | rfl | rfl | rfl | rfl | rfl | rfl | rfl | rfl | rfl | rfl | rfl | rfl | rfl | rfl
  · exact w_c0
  · exact w_c1
  · exact w_c2
  · exact w_c3
  · exact w_c4
  · exact w_c5
  · exact w_c6
  · exact w_c7
  · exact w_c8
  · exact w_c9
  · exact w_c10
  · exact w_c11
  · exact w_c12
  · exact w_c13
  · exact w_c14
  · exact w_c15
  · exact w_c16
set_option maxRecDepth 65536 in
theorem w_t1 : (words1.take 24).all (fun c => isCode c || c.before args0 about1) = true := by decide +kernel
set_option maxRecDepth 65536 in
theorem w_t2 : ((words1.drop 24).take 24).all (fun c => isCode c || c.before args0 about1) = true := by decide +kernel
set_option maxRecDepth 65536 in
theorem w_t3 : (((words1.drop 24).drop 24).take 24).all (fun c => isCode c || c.before args0 about1) = true := by decide +kernel
set_option maxRecDepth 65536 in
theorem w_t4 : (((words1.drop 24).drop 24).drop 24).all (fun c => isCode c || c.before args0 about1) = true := by decide +kernel
theorem w_tables : (allAtoms (Jvm.Cond.code x code maxLocals ret :: tables_1)).before args0 about1 = true := by
  rw [allAtoms_all]
  show words1.all (fun c => c.before args0 about1) = true
  refine all_split ?_ w_codes
  rw [← List.take_append_drop 24 words1, List.all_append, w_t1, ← List.take_append_drop 24 (words1.drop 24), List.all_append, w_t2, ← List.take_append_drop 24 ((words1.drop 24).drop 24), List.all_append, w_t3, w_t4]
  rfl
set_option maxRecDepth 65536 in
theorem w_rest : rest_1_c.before args0 about1 = true := by decide +kernel
set_option maxRecDepth 65536 in
theorem w_case : (Jvm.Cond.and given_1 narrow_1).before args0 about1 = true := by decide +kernel
set_option maxRecDepth 65536 in
theorem w_consts : constsHeld consts_1 about1 := Jvm.Lit.constsHeldB_iff.mp (by decide +kernel)
theorem w_applies : (headSpec (Jvm.Cond.code x code maxLocals ret :: tables_1) room_1).applies x e0.platform about1 = true :=
  (Spec.applies_iff w_frames).mpr ⟨w_running, w_runnable, w_alone, w_named, w_hears, w_ripe, w_room, w_tables⟩
theorem atStart : AtStart classFile x code maxLocals ret World_1 tables_1 room_1 Calls_1 rest_1 Pre_1 launch0 p0 e0 about1 theMethod args0 below0 :=
  ⟨lists_1, trivial, launch0.admits_env _ _ _, launch0.least_env, fairChoices_fair.cas, fairChoices_fair.clock, w_frames, w_args, w_heap, w_applies, ⟨w_consts, trivial⟩, w_rest, w_case⟩
end start1
theorem witness_1 : WitnessClaimed_1 := ⟨start1.p0, start1.e0, start1.about1, start1.theMethod, start1.args0, start1.below0, start1.atStart⟩
end Jvm.Pilot.@@N@@
