import JvmDerived
import JvmDerived.Pilot.@@N@@Statement
import JvmDerived.Pilot.@@N@@Code
set_option linter.unusedVariables false
set_option linter.unusedSimpArgs false
/- laws to paste: Road.backV (cut by pick.py; bodies as the Statement names them) -/
namespace Jvm.Pilot.@@N@@
namespace StrChars
open Jvm Sem ClassFile Op Lib Jvm.Stand Jvm.Free.XT Jvm.Free.ALB Jvm.Free.JM Jvm.Free
open Jvm.Lib.Cold (StaticIs)
/-- a char array whose places are chars -/
def Ch (a : Addr) (A : Cell) (U : State) : Prop := Arr .char a A U ∧ Typed .char A
theorem Ch.mv {a : Addr} {A : Cell} {U U' : State} (h : Ch a A U) (hal : U.vm.Alike U'.vm) (hh : U'.heap = U.heap) : Ch a A U' := ⟨h.1.mv hal hh, h.2⟩
theorem Ch.keep {a : Addr} {A : Cell} {U U' : State} (h : Ch a A U) (hal : U.vm.Alike U'.vm) (hk : U'.heap[a]? = some A) : Ch a A U' := ⟨h.1.keep hal hk, h.2⟩
/-- what place i of a char[]'s cell holds -/
def cv (A : Cell) (i : Nat) : Int32 := match A.slots[i]? with | some (.int x) => x | _ => 0
theorem Ch.get {a : Addr} {A : Cell} {U : State} (h : Ch a A U) {i : Nat} (hi : i < A.slots.size) : A.slots[i]? = some (.int (cv A i)) := by
  have e := Array.getElem?_eq_getElem hi
  have f := h.2 i _ e
  unfold cv; rw [e]
  generalize A.slots[i] = v at f
  cases v <;> simp [fits] at f ⊢
/-- the byte that i2b leaves of a char -/
def lo8 (x : Int32) : Int32 := x.toInt8.toInt32
theorem fits_lo8 (y : Int32) : fits .byte (.int (lo8 y)) = true := by
  have h1 := y.toInt8.le_toInt
  have h2 := y.toInt8.toInt_lt
  simp only [lo8, fits, Bool.and_eq_true, decide_eq_true_eq, Int32.le_iff_toInt_le, Int8.toInt_toInt32, show (-128 : Int32).toInt = -128 from by decide, show (127 : Int32).toInt = 127 from by decide]
  omega
/-- A' is A but that each place j of lo .. hi - 1 holds f j -/
def Laid (A A' : Cell) (lo hi : Nat) (f : Nat → Value) : Prop := A'.cls = A.cls ∧ A'.vm = A.vm ∧ A'.slots.size = A.slots.size ∧ ∀ i, A'.slots[i]? = if lo ≤ i ∧ i < hi then some (f i) else A.slots[i]?
theorem Laid.zero (A : Cell) (lo : Nat) (f : Nat → Value) : Laid A A lo (lo + 0) f := ⟨rfl, rfl, rfl, fun i => by rw [if_neg (by omega)]⟩
theorem Laid.step {A Ak : Cell} {lo k : Nat} {f : Nat → Value} {v : Value} (h : Laid A Ak lo k f) (hlo : lo ≤ k) (hk : k < Ak.slots.size) (hv : v = f k) : Laid A (Ak.setSlot k v) lo (k + 1) f := by
  refine ⟨h.1, h.2.1, by simpa [Cell.setSlot] using h.2.2.1, fun i => ?_⟩
  by_cases e : k = i
  · subst e; rw [Cell.slots_setSlot_self v hk, if_pos (by omega), hv]
  · rw [Cell.slots_setSlot_ne v e, h.2.2.2 i]
    by_cases q : lo ≤ i ∧ i < k
    · rw [if_pos q, if_pos (by omega)]
    · rw [if_neg q, if_neg (by omega)]
def U16 : String := "java/lang/StringUTF16"
namespace Cmp5
def yN : MethodName := ⟨"java/lang/StringUTF16", "compress", "([CI[BII)I"⟩
abbrev yB : ByteArray := jdk_52_method_21_code
theorem d0 : decode yB 0 = .ok (.iconst 0, 1) := by decide +kernel
theorem d1 : decode yB 1 = .ok (.istore 5, 2) := by decide +kernel
theorem d3 : decode yB 3 = .ok (.iload 5, 2) := by decide +kernel
theorem d5 : decode yB 5 = .ok (.iload 4, 2) := by decide +kernel
theorem d7 : decode yB 7 = .ok (.if_icmp (.ge) 37, 3) := by decide +kernel
theorem d10 : decode yB 10 = .ok (.aload_n 0, 1) := by decide +kernel
theorem d11 : decode yB 11 = .ok (.iload_n 1, 1) := by decide +kernel
theorem d12 : decode yB 12 = .ok (.caload, 1) := by decide +kernel
theorem d13 : decode yB 13 = .ok (.istore 6, 2) := by decide +kernel
theorem d15 : decode yB 15 = .ok (.iload 6, 2) := by decide +kernel
theorem d17 : decode yB 17 = .ok (.sipush 255, 3) := by decide +kernel
theorem d20 : decode yB 20 = .ok (.if_icmp (.le) 6, 3) := by decide +kernel
theorem d26 : decode yB 26 = .ok (.aload_n 2, 1) := by decide +kernel
theorem d27 : decode yB 27 = .ok (.iload_n 3, 1) := by decide +kernel
theorem d28 : decode yB 28 = .ok (.iload 6, 2) := by decide +kernel
theorem d30 : decode yB 30 = .ok (.i2b, 1) := by decide +kernel
theorem d31 : decode yB 31 = .ok (.bastore, 1) := by decide +kernel
theorem d32 : decode yB 32 = .ok (.iinc 1 1, 3) := by decide +kernel
theorem d35 : decode yB 35 = .ok (.iinc 3 1, 3) := by decide +kernel
theorem d38 : decode yB 38 = .ok (.iinc 5 1, 3) := by decide +kernel
theorem d41 : decode yB 41 = .ok (.goto (-38), 3) := by decide +kernel
theorem d44 : decode yB 44 = .ok (.iload 4, 2) := by decide +kernel
theorem d46 : decode yB 46 = .ok (.ireturn, 1) := by decide +kernel
def site : List Cond := []
def tab : Cond := tabOf yN yB 7 (some .int) site
def P (b : Addr) (A : Cell) (d : Addr) (B : Cell) (o q len : Nat) (args : Array Value) (s : State) : Prop := args = #[.ref b, .int (Int32.ofNat o), .ref d, .int (Int32.ofNat q), .int (Int32.ofNat len)] ∧ Ch b A s ∧ Arr .byte d B s ∧ b ≠ d ∧ o + len ≤ A.slots.size ∧ q + len ≤ B.slots.size ∧ ∀ i, i < len → ¬ 255 < cv A (o + i)
def E (b : Addr) (A : Cell) (d : Addr) (B : Cell) (o q len : Nat) (r : Option Value) (s u : State) : Prop := r = some (.int (Int32.ofNat len)) ∧ ∃ B', Put d B' s u ∧ Laid B B' q (q + len) (fun j => Value.int (lo8 (cv A (o + (j - q)))))
/-- no char of the range above 255: len; the places written hold each char's low byte -/
theorem law (l : Launch) (b : Addr) (A : Cell) (d : Addr) (B : Cell) (o q len : Nat) : Law l yN 5 5 0 0 yB 7 (some .int) site (P b A d B o q len) (E b A d B o q len) (copyLocs d q len) 0 0 := by
  refine Law.of_walk (plainFor_of_name (by decide +kernel)) (by decide +kernel) (by decide +kernel) (by decide) (fun _ _ h => by rw [h.1]; rfl) (fun _ U U' hal hh h => ⟨h.1, h.2.1.mv hal hh, h.2.2.1.mv hal hh, h.2.2.2⟩) (fun r U U' V V' h1 hal h2 h => ⟨h.1, h.2.elim fun B' q => ⟨B', q.1.mv h1 h2, q.2⟩⟩) ?_
  intro p e s m args below meth c s₁ X0 hexec hbytes hml hret hlk hnm hown hh0 W hP
  obtain ⟨rfl, hA, hB, hne, l1, l2, hp⟩ := hP
  have c1 : Steps p.tables e below (s₁.setTop (entryFrame m #[.ref b, .int (Int32.ofNat o), .ref d, .int (Int32.ofNat q), .int (Int32.ofNat len)] 7)) (s₁.setTop (mkF m 0 #[.val (.ref b), .val (.int (Int32.ofNat o)), .val (.ref d), .val (.int (Int32.ofNat q)), .val (.int (Int32.ofNat len)), .unset, .unset] [])) := entry rfl
  have hA0 := hA.1.mv X0.warmed.alike hh0
  have hB0 := hB.mv X0.warmed.alike hh0
  have a31 := hA.1.2.2.2
  have c2 : Steps p.tables e below (s₁.setTop (entryFrame m #[.ref b, .int (Int32.ofNat o), .ref d, .int (Int32.ofNat q), .int (Int32.ofNat len)] 7)) (s₁.setTop (mkF m 3 #[.val (.ref b), .val (.int (Int32.ofNat o)), .val (.ref d), .val (.int (Int32.ofNat q)), .val (.int (Int32.ofNat len)), .val (.int 0), .unset] [])) := c1.trans (by
    refine iconstV X0.here hexec rfl 0 (hb hbytes d0) (by decide) ?_
    refine XS.istore X0.here hexec rfl (hb hbytes d1) rfl rfl ?_
    exact Steps.refl _)
  have loop : ∀ (r i : Nat), i + r = len → ∀ (z : Slot), (z = .unset ∨ ∃ w, z = .val w ∧ w.category = 1) → ∀ (Tl : State) (Bk : Cell), Stand p l e { frames := 0, locals := 0, cells := 0, slots := 0 } s m #[.ref b, .int (Int32.ofNat o), .ref d, .int (Int32.ofNat q), .int (Int32.ofNat len)] below meth c Tl ([] ++ copyLocs d q i) 0 0 → Put d Bk s₁ Tl → Laid B Bk q (q + i) (fun j => Value.int (lo8 (cv A (o + (j - q))))) →
      Steps p.tables e below (s₁.setTop (entryFrame m #[.ref b, .int (Int32.ofNat o), .ref d, .int (Int32.ofNat q), .int (Int32.ofNat len)] 7)) (Tl.setTop (mkF m 3 #[.val (.ref b), .val (.int (Int32.ofNat (o + i))), .val (.ref d), .val (.int (Int32.ofNat (q + i))), .val (.int (Int32.ofNat len)), .val (.int (Int32.ofNat i)), z] [])) → ∃ (T' : State) (B' : Cell) (z' : Slot), Stand p l e { frames := 0, locals := 0, cells := 0, slots := 0 } s m #[.ref b, .int (Int32.ofNat o), .ref d, .int (Int32.ofNat q), .int (Int32.ofNat len)] below meth c T' ([] ++ copyLocs d q len) 0 0 ∧ Put d B' s₁ T' ∧ Laid B B' q (q + len) (fun j => Value.int (lo8 (cv A (o + (j - q))))) ∧
      Steps p.tables e below (s₁.setTop (entryFrame m #[.ref b, .int (Int32.ofNat o), .ref d, .int (Int32.ofNat q), .int (Int32.ofNat len)] 7)) (T'.setTop (mkF m 3 #[.val (.ref b), .val (.int (Int32.ofNat (o + len))), .val (.ref d), .val (.int (Int32.ofNat (q + len))), .val (.int (Int32.ofNat len)), .val (.int (Int32.ofNat len)), z'] [])) := by
    intro r
    induction r with
    | zero =>
      intro i hi z hz Tl Bk Xl pl fl cl
      have hil : i = len := by omega
      rw [hil] at Xl fl cl
      exact ⟨Tl, Bk, z, Xl, pl, fl, cl⟩
    | succ r ih =>
      intro i hi z hz Tl Bk Xl pl fl cl
      have all := X0.warmed.alike.symm.trans Xl.warmed.alike
      have hAl := hA0.keep all (pl.other hne hA0.1)
      have hBk := hB0.like all pl.1 fl.1 fl.2.1 fl.2.2.1
      have hlt : q + i < Bk.slots.size := by rw [fl.2.2.1]; omega
      have c3 : Steps p.tables e below (s₁.setTop (entryFrame m #[.ref b, .int (Int32.ofNat o), .ref d, .int (Int32.ofNat q), .int (Int32.ofNat len)] 7)) (Tl.setTop (mkF m 12 #[.val (.ref b), .val (.int (Int32.ofNat (o + i))), .val (.ref d), .val (.int (Int32.ofNat (q + i))), .val (.int (Int32.ofNat len)), .val (.int (Int32.ofNat i)), z] [.int (Int32.ofNat (o + i)), .ref b])) := cl.trans (by
        refine XS.iload Xl.here hexec rfl (hb hbytes d3) rfl ?_
        refine XS.iload Xl.here hexec rfl (hb hbytes d5) rfl ?_
        refine XS.icmpNo Xl.here hexec rfl (hb hbytes d7) rfl (ii_ge_f (lt32 (by omega) (by omega))) ?_
        refine XS.aloadN Xl.here hexec rfl (hb hbytes d10) rfl rfl ?_
        refine XS.iloadN Xl.here hexec rfl (hb hbytes d11) rfl ?_
        exact Steps.refl _)
      have c4 : Steps p.tables e below (s₁.setTop (entryFrame m #[.ref b, .int (Int32.ofNat o), .ref d, .int (Int32.ofNat q), .int (Int32.ofNat len)] 7)) (Tl.setTop (mkF m 13 #[.val (.ref b), .val (.int (Int32.ofNat (o + i))), .val (.ref d), .val (.int (Int32.ofNat (q + i))), .val (.int (Int32.ofNat len)), .val (.int (Int32.ofNat i)), z] [.int (cv A (o + i))])) := c3.trans (by
        refine Xl.aget hexec hAl rfl (hA.get (i := o + i) (by omega)) rfl rfl (hb hbytes d12) ?_
        exact Steps.refl _)
      have c5 : Steps p.tables e below (s₁.setTop (entryFrame m #[.ref b, .int (Int32.ofNat o), .ref d, .int (Int32.ofNat q), .int (Int32.ofNat len)] 7)) (Tl.setTop (mkF m 15 #[.val (.ref b), .val (.int (Int32.ofNat (o + i))), .val (.ref d), .val (.int (Int32.ofNat (q + i))), .val (.int (Int32.ofNat len)), .val (.int (Int32.ofNat i)), .val (.int (cv A (o + i)))] [])) := c4.trans (by
        refine XS.istoreS Xl.here hexec rfl (hb hbytes d13) rfl rfl hz ?_
        exact Steps.refl _)
      have c6 : Steps p.tables e below (s₁.setTop (entryFrame m #[.ref b, .int (Int32.ofNat o), .ref d, .int (Int32.ofNat q), .int (Int32.ofNat len)] 7)) (Tl.setTop (mkF m 31 #[.val (.ref b), .val (.int (Int32.ofNat (o + i))), .val (.ref d), .val (.int (Int32.ofNat (q + i))), .val (.int (Int32.ofNat len)), .val (.int (Int32.ofNat i)), .val (.int (cv A (o + i)))] [.int (lo8 (cv A (o + i))), .int (Int32.ofNat (q + i)), .ref d])) := c5.trans (by
        refine XS.iload Xl.here hexec rfl (hb hbytes d15) rfl ?_
        refine sipushV Xl.here hexec rfl 255 (hb hbytes d17) (by decide) ?_
        refine XS.icmpYes Xl.here hexec rfl (pc0 := 20) rfl (hb hbytes d20) rfl (ii_le_t (hp i (by omega))) (by decide) rfl ?_
        refine XS.aloadN Xl.here hexec rfl (hb hbytes d26) rfl rfl ?_
        refine XS.iloadN Xl.here hexec rfl (hb hbytes d27) rfl ?_
        refine XS.iload Xl.here hexec rfl (hb hbytes d28) rfl ?_
        refine i2b Xl.here hexec rfl (hb hbytes d30) rfl ?_
        exact Steps.refl _)
      obtain ⟨T7, X7, p7, st7⟩ := Xl.aput hexec hBk rfl hlt rfl (fits_lo8 (cv A (o + i))) (g := (mkF m 31 #[.val (.ref b), .val (.int (Int32.ofNat (o + i))), .val (.ref d), .val (.int (Int32.ofNat (q + i))), .val (.int (Int32.ofNat len)), .val (.int (Int32.ofNat i)), .val (.int (cv A (o + i)))] [.int (lo8 (cv A (o + i))), .int (Int32.ofNat (q + i)), .ref d])) rfl (rest := []) rfl (hb hbytes d31)
      have c8 : Steps p.tables e below (s₁.setTop (entryFrame m #[.ref b, .int (Int32.ofNat o), .ref d, .int (Int32.ofNat q), .int (Int32.ofNat len)] 7)) (T7.setTop (mkF m 32 #[.val (.ref b), .val (.int (Int32.ofNat (o + i))), .val (.ref d), .val (.int (Int32.ofNat (q + i))), .val (.int (Int32.ofNat len)), .val (.int (Int32.ofNat i)), .val (.int (cv A (o + i)))] [])) := c6.trans (st7 _ (Steps.refl _))
      have c9 : Steps p.tables e below (s₁.setTop (entryFrame m #[.ref b, .int (Int32.ofNat o), .ref d, .int (Int32.ofNat q), .int (Int32.ofNat len)] 7)) (T7.setTop (mkF m 3 #[.val (.ref b), .val (.int (Int32.ofNat (o + i) + 1)), .val (.ref d), .val (.int (Int32.ofNat (q + i) + 1)), .val (.int (Int32.ofNat len)), .val (.int (Int32.ofNat i + 1)), .val (.int (cv A (o + i)))] [])) := c8.trans (by
        refine iincV X7.here hexec rfl 1 (hb hbytes d32) (by decide) rfl rfl ?_
        refine iincV X7.here hexec rfl 1 (hb hbytes d35) (by decide) rfl rfl ?_
        refine iincV X7.here hexec rfl 1 (hb hbytes d38) (by decide) rfl rfl ?_
        refine XS.goto X7.here hexec rfl (pc0 := 41) rfl (hb hbytes d41) (by decide) rfl ?_
        exact Steps.refl _)
      have c10 : Steps p.tables e below (s₁.setTop (entryFrame m #[.ref b, .int (Int32.ofNat o), .ref d, .int (Int32.ofNat q), .int (Int32.ofNat len)] 7)) (T7.setTop (mkF m 3 #[.val (.ref b), .val (.int (Int32.ofNat (o + (i + 1)))), .val (.ref d), .val (.int (Int32.ofNat (q + (i + 1)))), .val (.int (Int32.ofNat len)), .val (.int (Int32.ofNat (i + 1))), .val (.int (cv A (o + i)))] [])) := by
        have := c9
        rw [succ32, succ32, succ32] at this
        exact this
      exact ih (i + 1) (by omega) _ (Or.inr ⟨_, rfl, rfl⟩) T7 _ (by rw [copyLocs_step, ← List.append_assoc]; exact X7) (pl.trans p7) (fl.step (by omega) hlt (by simp)) c10
  obtain ⟨T9, B9, z9, X9, p9, f9, g9⟩ := loop len 0 (by omega) .unset (Or.inl rfl) s₁ B (by simpa [copyLocs] using X0) ⟨hB0.1, fun _ _ => rfl, rfl⟩ (Laid.zero _ _ _) c2
  have c11 : Steps p.tables e below (s₁.setTop (entryFrame m #[.ref b, .int (Int32.ofNat o), .ref d, .int (Int32.ofNat q), .int (Int32.ofNat len)] 7)) (T9.setTop (mkF m 46 #[.val (.ref b), .val (.int (Int32.ofNat (o + len))), .val (.ref d), .val (.int (Int32.ofNat (q + len))), .val (.int (Int32.ofNat len)), .val (.int (Int32.ofNat len)), z9] [.int (Int32.ofNat len)])) := g9.trans (by
    refine XS.iload X9.here hexec rfl (hb hbytes d3) rfl ?_
    refine XS.iload X9.here hexec rfl (hb hbytes d5) rfl ?_
    refine XS.icmpYes X9.here hexec rfl (pc0 := 7) rfl (hb hbytes d7) rfl (ii_ge_t (nlt32 (by omega) (Nat.le_refl _))) (by decide) rfl ?_
    refine XS.iload X9.here hexec rfl (hb hbytes d44) rfl ?_
    exact Steps.refl _)
  exact ⟨T9, some (.int (Int32.ofNat len)), _, _, _, X9, by simp, rfl, rfl, (fun h => by cases h), ⟨rfl, B9, p9.from hh0, f9⟩, fun fs hl => c11.trans (X9.ireturnOut hexec hret rfl (Or.inl rfl) (hb hbytes d46) hl)⟩
end Cmp5
namespace Cmp3
def yN : MethodName := ⟨"java/lang/StringUTF16", "compress", "([CII)[B"⟩
abbrev yB : ByteArray := jdk_52_method_16_code
theorem d0 : decode yB 0 = .ok (.iload_n 2, 1) := by decide +kernel
theorem d1 : decode yB 1 = .ok (.newarray .byte, 2) := by decide +kernel
theorem d3 : decode yB 3 = .ok (.astore_n 3, 1) := by decide +kernel
theorem d4 : decode yB 4 = .ok (.aload_n 0, 1) := by decide +kernel
theorem d5 : decode yB 5 = .ok (.iload_n 1, 1) := by decide +kernel
theorem d6 : decode yB 6 = .ok (.aload_n 3, 1) := by decide +kernel
theorem d7 : decode yB 7 = .ok (.iconst 0, 1) := by decide +kernel
theorem d8 : decode yB 8 = .ok (.iload_n 2, 1) := by decide +kernel
theorem d9 : decode yB 9 = .ok (.invokestatic 115, 3) := by decide +kernel
theorem d12 : decode yB 12 = .ok (.istore 4, 2) := by decide +kernel
theorem d14 : decode yB 14 = .ok (.iload 4, 2) := by decide +kernel
theorem d16 : decode yB 16 = .ok (.iload_n 2, 1) := by decide +kernel
theorem d17 : decode yB 17 = .ok (.if_icmp (.eq) 40, 3) := by decide +kernel
theorem d57 : decode yB 57 = .ok (.aload_n 3, 1) := by decide +kernel
theorem d58 : decode yB 58 = .ok (.areturn, 1) := by decide +kernel
def site : List Cond := [.arrayClass .byte, Cmp5.tab] ++ staticW U16 115 Cmp5.yN
def tab : Cond := tabOf yN yB 6 (some (.array .byte)) site
def P (b : Addr) (A : Cell) (o len : Nat) (args : Array Value) (s : State) : Prop := args = #[.ref b, .int (Int32.ofNat o), .int (Int32.ofNat len)] ∧ Ch b A s ∧ o + len ≤ A.slots.size ∧ len ≤ 536870912 ∧ ∀ i, i < len → ¬ 255 < cv A (o + i)
def E (b : Addr) (A : Cell) (o len : Nat) (r : Option Value) (s u : State) : Prop := NewArr .byte "[B" len (fun j => .int (lo8 (cv A (o + j)))) r s u ∧ u.heap.size = s.heap.size + 1
/-- no char of the range above 255: a new byte[] of their low bytes -/
theorem law (l : Launch) (b : Addr) (A : Cell) (o len : Nat) : Law l yN 3 3 1 18 yB 6 (some (.array .byte)) site (P b A o len) (E b A o len) [] 1 len := by
  refine Law.of_walk (plainFor_of_name (by decide +kernel)) (by decide +kernel) (by decide +kernel) (by decide) (fun _ _ h => by rw [h.1]; rfl) (fun _ U U' hal hh h => ⟨h.1, h.2.1.mv hal hh, h.2.2⟩) (fun r U U' V V' h1 hal h2 h => ⟨NewArr.mv r U U' V V' h1 hal h2 h.1, by rw [h1, h2]; exact h.2⟩) ?_
  intro p e s m args below meth c s₁ X0 hexec hbytes hml hret hlk hnm hown hh0 W hP
  obtain ⟨rfl, hA, l1, l2, hp⟩ := hP
  have a31 := hA.1.2.2.2
  have c1 : Steps p.tables e below (s₁.setTop (entryFrame m #[.ref b, .int (Int32.ofNat o), .int (Int32.ofNat len)] 6)) (s₁.setTop (mkF m 0 #[.val (.ref b), .val (.int (Int32.ofNat o)), .val (.int (Int32.ofNat len)), .unset, .unset, .unset] [])) := entry rfl
  have c2 : Steps p.tables e below (s₁.setTop (entryFrame m #[.ref b, .int (Int32.ofNat o), .int (Int32.ofNat len)] 6)) (s₁.setTop (mkF m 1 #[.val (.ref b), .val (.int (Int32.ofNat o)), .val (.int (Int32.ofNat len)), .unset, .unset, .unset] [.int (Int32.ofNat len)])) := c1.trans (by
    refine XS.iloadN X0.here hexec rfl (hb hbytes d0) rfl ?_
    exact Steps.refl _)
  obtain ⟨T3, B3, X3, ba3, bs3, bv3, bh3, bf3, st3⟩ := X0.anew hexec (atype := .byte) (wk W (.arrayClass .byte)) rfl (by show len * 1 ≤ _; omega) (by omega) (g := (mkF m 1 #[.val (.ref b), .val (.int (Int32.ofNat o)), .val (.int (Int32.ofNat len)), .unset, .unset, .unset] [.int (Int32.ofNat len)])) rfl (hb hbytes d1) (rest := []) rfl (Nat.le_refl _) (by show 0 + len ≤ len; omega)
  rw [hh0] at ba3 st3
  have kp3 : XT.Kept s T3 := (XT.Kept.of_eq hh0).push bh3
  have hA3 := hA.keep X3.warmed.alike (kp3 _ _ hA.1.1)
  have hne : b ≠ s.heap.size := hA.1.ne
  have c4 : Steps p.tables e below (s₁.setTop (entryFrame m #[.ref b, .int (Int32.ofNat o), .int (Int32.ofNat len)] 6)) (T3.setTop (mkF m 3 #[.val (.ref b), .val (.int (Int32.ofNat o)), .val (.int (Int32.ofNat len)), .unset, .unset, .unset] [.ref s.heap.size])) := c2.trans (st3 _ (Steps.refl _))
  have c5 : Steps p.tables e below (s₁.setTop (entryFrame m #[.ref b, .int (Int32.ofNat o), .int (Int32.ofNat len)] 6)) (T3.setTop (mkF m 9 #[.val (.ref b), .val (.int (Int32.ofNat o)), .val (.int (Int32.ofNat len)), .val (.ref s.heap.size), .unset, .unset] [.int (Int32.ofNat len), .int 0, .ref s.heap.size, .int (Int32.ofNat o), .ref b])) := c4.trans (by
    refine XS.astoreN X3.here hexec rfl (hb hbytes d3) rfl rfl rfl ?_
    refine XS.aloadN X3.here hexec rfl (hb hbytes d4) rfl rfl ?_
    refine XS.iloadN X3.here hexec rfl (hb hbytes d5) rfl ?_
    refine XS.aloadN X3.here hexec rfl (hb hbytes d6) rfl rfl ?_
    refine iconstV X3.here hexec rfl 0 (hb hbytes d7) (by decide) ?_
    refine XS.iloadN X3.here hexec rfl (hb hbytes d8) rfl ?_
    exact Steps.refl _)
  obtain ⟨v6, T6, X6, E6, g6⟩ := X3.callS hexec (Cmp5.law l b A s.heap.size B3 o 0 len) hown (wks W (staticW U16 115 Cmp5.yN)) (wk W Cmp5.tab) (W := 0) (Nat.le_of_ble_eq_true rfl) (Nat.le_of_ble_eq_true rfl) (Nat.le_refl _) (by show 0 + len + 0 ≤ len; omega) (g := (mkF m 9 #[.val (.ref b), .val (.int (Int32.ofNat o)), .val (.int (Int32.ofNat len)), .val (.ref s.heap.size), .unset, .unset] [.int (Int32.ofNat len), .int (Int32.ofNat 0), .ref s.heap.size, .int (Int32.ofNat o), .ref b])) rfl (by rw [hml]; rfl) c5 (argsL := [.ref b, .int (Int32.ofNat o), .ref s.heap.size, .int (Int32.ofNat 0), .int (Int32.ofNat len)]) (rest := []) rfl rfl (by show 2 * 0 + 0 ≤ _; decide) (hb hbytes d9) (⟨rfl, hA3, ba3, hne, l1, by rw [bs3]; simp, hp⟩)
  obtain ⟨rfl, B6, p6, f6⟩ := E6
  have c7 : Steps p.tables e below (s₁.setTop (entryFrame m #[.ref b, .int (Int32.ofNat o), .int (Int32.ofNat len)] 6)) (T6.setTop (mkF m 12 #[.val (.ref b), .val (.int (Int32.ofNat o)), .val (.int (Int32.ofNat len)), .val (.ref s.heap.size), .unset, .unset] [.int (Int32.ofNat len)])) := g6
  have c8 : Steps p.tables e below (s₁.setTop (entryFrame m #[.ref b, .int (Int32.ofNat o), .int (Int32.ofNat len)] 6)) (T6.setTop (mkF m 58 #[.val (.ref b), .val (.int (Int32.ofNat o)), .val (.int (Int32.ofNat len)), .val (.ref s.heap.size), .val (.int (Int32.ofNat len)), .unset] [.ref s.heap.size])) := c7.trans (by
    refine XS.istore X6.here hexec rfl (hb hbytes d12) rfl rfl ?_
    refine XS.iload X6.here hexec rfl (hb hbytes d14) rfl ?_
    refine XS.iloadN X6.here hexec rfl (hb hbytes d16) rfl ?_
    refine XS.icmpYes X6.here hexec rfl (pc0 := 17) rfl (hb hbytes d17) rfl (ii_eq_t rfl) (by decide) rfl ?_
    refine XS.aloadN X6.here hexec rfl (hb hbytes d57) rfl rfl ?_
    exact Steps.refl _)
  have X8 := X6.wide (L' := []) (cells' := 1) (slots' := len) (fun x hx hlt => by
    simp only [List.nil_append, copyLocs, List.mem_map, List.mem_range] at hx
    obtain ⟨i, -, rfl⟩ := hx
    exact absurd hlt (Nat.lt_irrefl _)) (Nat.le_refl _) (by omega)
  exact ⟨T6, some (.ref s.heap.size), _, _, _, X8, rfl, rfl, rfl, (fun h => by cases h), ⟨⟨rfl, B6, ba3.like (X3.warmed.alike.symm.trans X6.warmed.alike) p6.1 f6.1 f6.2.1 f6.2.2.1, f6.2.1.trans bv3, by rw [X6.warmed.alike.findClass, f6.1]; exact bf3, by rw [f6.2.2.1, bs3]; simp, fun j hj => by rw [f6.2.2.2 j, if_pos (by omega)]; rfl, kp3.put p6 (Nat.le_refl _)⟩, by rw [p6.2.2, bh3, hh0]; simp⟩, fun fs hl => c8.trans (X8.areturnOut hexec rfl hret rfl (hb hbytes d58) hl)⟩
end Cmp3
namespace CodL
def yN : MethodName := ⟨"java/lang/StringUTF16", "coderFromArrayLen", "([BI)B"⟩
abbrev yB : ByteArray := jdk_52_method_15_code
theorem d0 : decode yB 0 = .ok (.iload_n 1, 1) := by decide +kernel
theorem d1 : decode yB 1 = .ok (.aload_n 0, 1) := by decide +kernel
theorem d2 : decode yB 2 = .ok (.arraylength, 1) := by decide +kernel
theorem d3 : decode yB 3 = .ok (.isub, 1) := by decide +kernel
theorem d4 : decode yB 4 = .ok (.bipush 31, 2) := by decide +kernel
theorem d6 : decode yB 6 = .ok (.iushr, 1) := by decide +kernel
theorem d7 : decode yB 7 = .ok (.i2b, 1) := by decide +kernel
theorem d8 : decode yB 8 = .ok (.ireturn, 1) := by decide +kernel
def site : List Cond := []
def tab : Cond := tabOf yN yB 2 (some .byte) site
def P (d : Addr) (B : Cell) (args : Array Value) (s : State) : Prop := args = #[.ref d, .int (Int32.ofNat B.slots.size)] ∧ Arr .byte d B s
def E (r : Option Value) (s u : State) : Prop := XT.PureE (some (.int 0)) r s u
/-- an array as long as the number of chars: LATIN1 -/
theorem law (l : Launch) (d : Addr) (B : Cell) : Law l yN 2 2 0 0 yB 2 (some .byte) site (P d B) E [] 0 0 := by
  refine Law.of_walk (plainFor_of_name (by decide +kernel)) (by decide +kernel) (by decide +kernel) (by decide) (fun _ _ h => by rw [h.1]; rfl) (fun _ U U' hal hh h => ⟨h.1, h.2.mv hal hh⟩) (fun r U U' V V' h1 hal h2 h => XT.PureE.mv r U U' V V' h1 hal h2 h) ?_
  intro p e s m args below meth c s₁ X0 hexec hbytes hml hret hlk hnm hown hh0 W hP
  obtain ⟨rfl, hB⟩ := hP
  have hB0 := hB.mv X0.warmed.alike hh0
  have c1 : Steps p.tables e below (s₁.setTop (entryFrame m #[.ref d, .int (Int32.ofNat B.slots.size)] 2)) (s₁.setTop (mkF m 0 #[.val (.ref d), .val (.int (Int32.ofNat B.slots.size))] [])) := entry rfl
  have c2 : Steps p.tables e below (s₁.setTop (entryFrame m #[.ref d, .int (Int32.ofNat B.slots.size)] 2)) (s₁.setTop (mkF m 2 #[.val (.ref d), .val (.int (Int32.ofNat B.slots.size))] [.ref d, .int (Int32.ofNat B.slots.size)])) := c1.trans (by
    refine XS.iloadN X0.here hexec rfl (hb hbytes d0) rfl ?_
    refine XS.aloadN X0.here hexec rfl (hb hbytes d1) rfl rfl ?_
    exact Steps.refl _)
  have c3 : Steps p.tables e below (s₁.setTop (entryFrame m #[.ref d, .int (Int32.ofNat B.slots.size)] 2)) (s₁.setTop (mkF m 8 #[.val (.ref d), .val (.int (Int32.ofNat B.slots.size))] [.int (lo8 (ushr (Int32.ofNat B.slots.size - Int32.ofNat B.slots.size) 31))])) := c2.trans (by
    refine X0.alen hexec hB0 rfl rfl (hb hbytes d2) ?_
    refine XS.isub X0.here hexec rfl (hb hbytes d3) rfl ?_
    refine bipushV X0.here hexec rfl 31 (hb hbytes d4) (by decide) ?_
    refine iushr X0.here hexec rfl (hb hbytes d6) rfl ?_
    refine i2b X0.here hexec rfl (hb hbytes d7) rfl ?_
    exact Steps.refl _)
  have e0 : lo8 (ushr (Int32.ofNat B.slots.size - Int32.ofNat B.slots.size) 31) = 0 := by rw [Int32.sub_self]; decide
  rw [e0] at c3
  exact ⟨s₁, some (.int 0), _, _, _, X0, rfl, rfl, rfl, (fun h => by cases h), ⟨rfl, hh0⟩, fun fs hl => c3.trans (X0.ireturnOut hexec hret rfl (Or.inr (Or.inr (Or.inl rfl))) (hb hbytes d8) hl)⟩
end CodL
/-- the String at a is Latin-1 over a new byte[] (the heap's one new cell): the low bytes of the len chars of A from o on; every cell but a is kept -/
def Got (a : Addr) (D : Cell) (fV fC : Field) (A : Cell) (o len : Nat) (r : Option Value) (s u : State) : Prop := r = none ∧ ∃ D' V : Cell, Blank "java/lang/String" a D' u ∧ Same D D' [fV.slot, fC.slot] ∧ D'.slots[fV.slot]? = some (.ref s.heap.size) ∧ D'.slots[fC.slot]? = some (.int 0) ∧ Arr .byte s.heap.size V u ∧ V.vm = .none ∧ u.vm.findClass "[B" = some V.cls ∧ V.slots.size = len ∧ (∀ j, j < len → V.slots[j]? = some (.int (lo8 (cv A (o + j))))) ∧ (∀ (y : Addr) (c : Cell), y ≠ a → s.heap[y]? = some c → u.heap[y]? = some c) ∧ u.heap.size = s.heap.size + 1
theorem Got.mv {a : Addr} {D A : Cell} {fV fC : Field} {o len : Nat} : ∀ r (U U' V V' : State), U'.heap = U.heap → V.vm.Alike V'.vm → V'.heap = V.heap → Got a D fV fC A o len r U V → Got a D fV fC A o len r U' V' :=
  fun r U U' V V' h1 hal h2 ⟨e0, D', X, a1, a2, a3, a4, a5, a6, a7, a8, a9, a10, a11⟩ => ⟨e0, D', X, a1.mv hal h2, a2, by rw [h1]; exact a3, a4, by rw [h1]; exact a5.mv hal h2, a6, by rw [hal.findClass]; exact a7, a8, a9, by rw [h1, h2]; exact a10, by rw [h1, h2]; exact a11⟩
namespace New4
def yN : MethodName := ⟨"java/lang/String", "<init>", "([CIILjava/lang/Void;)V"⟩
abbrev yB : ByteArray := jdk_42_method_149_code
theorem d0 : decode yB 0 = .ok (.aload_n 0, 1) := by decide +kernel
theorem d1 : decode yB 1 = .ok (.invokespecial 1, 3) := by decide +kernel
theorem d4 : decode yB 4 = .ok (.iload_n 3, 1) := by decide +kernel
theorem d5 : decode yB 5 = .ok (.ifCond (.ne) 22, 3) := by decide +kernel
theorem d27 : decode yB 27 = .ok (.getstatic 38, 3) := by decide +kernel
theorem d30 : decode yB 30 = .ok (.ifCond (.eq) 28, 3) := by decide +kernel
theorem d33 : decode yB 33 = .ok (.aload_n 1, 1) := by decide +kernel
theorem d34 : decode yB 34 = .ok (.iload_n 2, 1) := by decide +kernel
theorem d35 : decode yB 35 = .ok (.iload_n 3, 1) := by decide +kernel
theorem d36 : decode yB 36 = .ok (.invokestatic 177, 3) := by decide +kernel
theorem d39 : decode yB 39 = .ok (.astore 5, 2) := by decide +kernel
theorem d41 : decode yB 41 = .ok (.aload_n 0, 1) := by decide +kernel
theorem d42 : decode yB 42 = .ok (.aload 5, 2) := by decide +kernel
theorem d44 : decode yB 44 = .ok (.iload_n 3, 1) := by decide +kernel
theorem d45 : decode yB 45 = .ok (.invokestatic 47, 3) := by decide +kernel
theorem d48 : decode yB 48 = .ok (.putfield 15, 3) := by decide +kernel
theorem d51 : decode yB 51 = .ok (.aload_n 0, 1) := by decide +kernel
theorem d52 : decode yB 52 = .ok (.aload 5, 2) := by decide +kernel
theorem d54 : decode yB 54 = .ok (.putfield 9, 3) := by decide +kernel
theorem d57 : decode yB 57 = .ok (.return_, 1) := by decide +kernel
def site : List Cond := [.fieldLink "java/lang/String" 38 "java/lang/String" "COMPACT_STRINGS" "Z", Cmp3.tab, CodL.tab, .laysFinal "java/lang/String" "java/lang/String" "value" "[B", .fieldLink "java/lang/String" 9 "java/lang/String" "value" "[B", .laysFinal "java/lang/String" "java/lang/String" "coder" "B", .fieldLink "java/lang/String" 15 "java/lang/String" "coder" "B"] ++ objW "java/lang/String" 1 ++ staticW "java/lang/String" 177 Cmp3.yN ++ staticW "java/lang/String" 47 CodL.yN
def tab : Cond := tabOf yN yB 6 none site
def P (a : Addr) (D : Cell) (fV fC : Field) (b : Addr) (A : Cell) (z : Int32) (o len : Nat) (args : Array Value) (s : State) : Prop := args = #[.ref a, .ref b, .int (Int32.ofNat o), .int (Int32.ofNat len), .null] ∧ Blank "java/lang/String" a D s ∧ Found "java/lang/String" "value" "[B" fV s ∧ Found "java/lang/String" "coder" "B" fC s ∧ Ch b A s ∧ StaticIs s "java/lang/String" "COMPACT_STRINGS" "Z" (.int z) ∧ ¬ z = 0 ∧ 0 < len ∧ o + len ≤ A.slots.size ∧ len ≤ 536870912 ∧ ∀ i, i < len → ¬ 255 < cv A (o + i)
def E (a : Addr) (D : Cell) (fV fC : Field) (A : Cell) (o len : Nat) (r : Option Value) (s u : State) : Prop := Got a D fV fC A o len r s u
/-- len > 0, no char of the range above 255: a Latin-1 String of their low bytes -/
theorem law (l : Launch) (a : Addr) (D : Cell) (fV fC : Field) (b : Addr) (A : Cell) (z : Int32) (o len : Nat) : Law l yN 5 4 2 35 yB 6 none site (P a D fV fC b A z o len) (E a D fV fC A o len) [⟨a, fC.slot⟩, ⟨a, fV.slot⟩] 1 len := by
  refine Law.of_walk (plainFor_of_name (by decide +kernel)) (by decide +kernel) (by decide +kernel) (by decide) (fun _ _ h => by rw [h.1]; rfl) (fun _ U U' hal hh h => ⟨h.1, h.2.1.mv hal hh, h.2.2.1.al hal, h.2.2.2.1.al hal, h.2.2.2.2.1.mv hal hh, h.2.2.2.2.2.1.there hal hh, h.2.2.2.2.2.2⟩) (fun r U U' V V' h1 hal h2 h => Got.mv r U U' V V' h1 hal h2 h) ?_
  intro p e s m args below meth c s₁ X0 hexec hbytes hml hret hlk hnm hown hh0 W hP
  obtain ⟨rfl, hB, f1, f2, hA, s1, hz, l0, l1, l2, hp⟩ := hP
  have a31 := hA.1.2.2.2
  have c1 : Steps p.tables e below (s₁.setTop (entryFrame m #[.ref a, .ref b, .int (Int32.ofNat o), .int (Int32.ofNat len), .null] 6)) (s₁.setTop (mkF m 0 #[.val (.ref a), .val (.ref b), .val (.int (Int32.ofNat o)), .val (.int (Int32.ofNat len)), .val .null, .unset] [])) := entry rfl
  have c2 : Steps p.tables e below (s₁.setTop (entryFrame m #[.ref a, .ref b, .int (Int32.ofNat o), .int (Int32.ofNat len), .null] 6)) (s₁.setTop (mkF m 1 #[.val (.ref a), .val (.ref b), .val (.int (Int32.ofNat o)), .val (.int (Int32.ofNat len)), .val .null, .unset] [.ref a])) := c1.trans (by
    refine XS.aloadN X0.here hexec rfl (hb hbytes d0) rfl rfl ?_
    exact Steps.refl _)
  obtain ⟨T3, X3, q3, st3⟩ := X0.oinit hexec hown (wks W (objW "java/lang/String" 1)) (g := (mkF m 1 #[.val (.ref a), .val (.ref b), .val (.int (Int32.ofNat o)), .val (.int (Int32.ofNat len)), .val .null, .unset] [.ref a])) rfl (by rw [hml]; rfl) (rest := []) rfl (hb hbytes d1) (W := 0) (by show 2 * 0 + 0 ≤ _; decide) (Nat.le_of_ble_eq_true rfl) (Nat.le_of_ble_eq_true rfl)
  have hh3 := q3.trans hh0
  have c4 : Steps p.tables e below (s₁.setTop (entryFrame m #[.ref a, .ref b, .int (Int32.ofNat o), .int (Int32.ofNat len), .null] 6)) (T3.setTop (mkF m 27 #[.val (.ref a), .val (.ref b), .val (.int (Int32.ofNat o)), .val (.int (Int32.ofNat len)), .val .null, .unset] [])) := (c2.trans (st3 _ (Steps.refl _))).trans (by
    refine XS.iloadN X3.here hexec rfl (hb hbytes d4) rfl ?_
    refine XS.ifYes X3.here hexec rfl (pc0 := 5) rfl (hb hbytes d5) rfl (i0_ne_t (nz32 (by omega) l0)) (by decide) rfl ?_
    exact Steps.refl _)
  obtain ⟨T5, X5, q5, st5⟩ := X3.sget hexec hown (wk W (.fieldLink "java/lang/String" 38 "java/lang/String" "COMPACT_STRINGS" "Z")) s1 (fun _ _ h => by rw [hh3]; exact h) (g := (mkF m 27 #[.val (.ref a), .val (.ref b), .val (.int (Int32.ofNat o)), .val (.int (Int32.ofNat len)), .val .null, .unset] [])) rfl (hb hbytes d27)
  have hh5 := q5.trans hh3
  have c6 : Steps p.tables e below (s₁.setTop (entryFrame m #[.ref a, .ref b, .int (Int32.ofNat o), .int (Int32.ofNat len), .null] 6)) (T5.setTop (mkF m 30 #[.val (.ref a), .val (.ref b), .val (.int (Int32.ofNat o)), .val (.int (Int32.ofNat len)), .val .null, .unset] [.int z])) := c4.trans (st5 _ (Steps.refl _))
  have c7 : Steps p.tables e below (s₁.setTop (entryFrame m #[.ref a, .ref b, .int (Int32.ofNat o), .int (Int32.ofNat len), .null] 6)) (T5.setTop (mkF m 36 #[.val (.ref a), .val (.ref b), .val (.int (Int32.ofNat o)), .val (.int (Int32.ofNat len)), .val .null, .unset] [.int (Int32.ofNat len), .int (Int32.ofNat o), .ref b])) := c6.trans (by
    refine XS.ifNo X5.here hexec rfl (hb hbytes d30) rfl (i0_eq_f hz) ?_
    refine XS.aloadN X5.here hexec rfl (hb hbytes d33) rfl rfl ?_
    refine XS.iloadN X5.here hexec rfl (hb hbytes d34) rfl ?_
    refine XS.iloadN X5.here hexec rfl (hb hbytes d35) rfl ?_
    exact Steps.refl _)
  obtain ⟨v8, T8, X8, E8, g8⟩ := X5.callS hexec (Cmp3.law l b A o len) hown (wks W (staticW "java/lang/String" 177 Cmp3.yN)) (wk W Cmp3.tab) (W := 0) (Nat.le_of_ble_eq_true rfl) (Nat.le_of_ble_eq_true rfl) (Nat.le_refl _) (by show 0 + len ≤ len; omega) (g := (mkF m 36 #[.val (.ref a), .val (.ref b), .val (.int (Int32.ofNat o)), .val (.int (Int32.ofNat len)), .val .null, .unset] [.int (Int32.ofNat len), .int (Int32.ofNat o), .ref b])) rfl (by rw [hml]; rfl) c7 (argsL := [.ref b, .int (Int32.ofNat o), .int (Int32.ofNat len)]) (rest := []) rfl rfl (by show 2 * 0 + 0 ≤ _; decide) (hb hbytes d36) (⟨rfl, hA.mv X5.warmed.alike hh5, l1, l2, hp⟩)
  obtain ⟨e8, z8⟩ := E8
  obtain ⟨rfl, N, n1, n2, n3, n4, n5, n6⟩ := NewArr.mv _ T5 s _ _ hh5.symm (Vm.Alike.refl _) rfl e8
  rw [hh5] at z8
  have hB1 := hB.keep X8.warmed.alike (n6 _ _ hB.1)
  have hne : s.heap.size ≠ a := (Nat.ne_of_lt (Array.getElem?_eq_some_iff.mp hB.1).1).symm
  have c9 : Steps p.tables e below (s₁.setTop (entryFrame m #[.ref a, .ref b, .int (Int32.ofNat o), .int (Int32.ofNat len), .null] 6)) (T8.setTop (mkF m 39 #[.val (.ref a), .val (.ref b), .val (.int (Int32.ofNat o)), .val (.int (Int32.ofNat len)), .val .null, .unset] [.ref s.heap.size])) := g8
  have c10 : Steps p.tables e below (s₁.setTop (entryFrame m #[.ref a, .ref b, .int (Int32.ofNat o), .int (Int32.ofNat len), .null] 6)) (T8.setTop (mkF m 45 #[.val (.ref a), .val (.ref b), .val (.int (Int32.ofNat o)), .val (.int (Int32.ofNat len)), .val .null, .val (.ref s.heap.size)] [.int (Int32.ofNat N.slots.size), .ref s.heap.size, .ref a])) := by
    have hc : Steps p.tables e below (s₁.setTop (entryFrame m #[.ref a, .ref b, .int (Int32.ofNat o), .int (Int32.ofNat len), .null] 6)) (T8.setTop (mkF m 45 #[.val (.ref a), .val (.ref b), .val (.int (Int32.ofNat o)), .val (.int (Int32.ofNat len)), .val .null, .val (.ref s.heap.size)] [.int (Int32.ofNat len), .ref s.heap.size, .ref a])) := c9.trans (by
      refine XS.astore X8.here hexec rfl (hb hbytes d39) rfl rfl rfl ?_
      refine XS.aloadN X8.here hexec rfl (hb hbytes d41) rfl rfl ?_
      refine XS.aload X8.here hexec rfl (hb hbytes d42) rfl rfl ?_
      refine XS.iloadN X8.here hexec rfl (hb hbytes d44) rfl ?_
      exact Steps.refl _)
    rw [n4]; exact hc
  obtain ⟨v11, T11, X11, E11, g11⟩ := X8.callS hexec (CodL.law l s.heap.size N) hown (wks W (staticW "java/lang/String" 47 CodL.yN)) (wk W CodL.tab) (W := 1) (Nat.le_of_ble_eq_true rfl) (Nat.le_of_ble_eq_true rfl) (Nat.le_refl _) (by show 0 + len + 0 ≤ len; omega) (g := (mkF m 45 #[.val (.ref a), .val (.ref b), .val (.int (Int32.ofNat o)), .val (.int (Int32.ofNat len)), .val .null, .val (.ref s.heap.size)] [.int (Int32.ofNat N.slots.size), .ref s.heap.size, .ref a])) rfl (by rw [hml]; rfl) c10 (argsL := [.ref s.heap.size, .int (Int32.ofNat N.slots.size)]) (rest := [.ref a]) rfl rfl (by show 2 * 0 + (1 + 0) ≤ _; decide) (hb hbytes d45) (⟨rfl, n1⟩)
  obtain ⟨rfl, q11⟩ := E11
  have hB11 := hB1.mv (X8.warmed.alike.symm.trans X11.warmed.alike) q11
  have c12 : Steps p.tables e below (s₁.setTop (entryFrame m #[.ref a, .ref b, .int (Int32.ofNat o), .int (Int32.ofNat len), .null] 6)) (T11.setTop (mkF m 48 #[.val (.ref a), .val (.ref b), .val (.int (Int32.ofNat o)), .val (.int (Int32.ofNat len)), .val .null, .val (.ref s.heap.size)] [.int 0, .ref a])) := g11
  obtain ⟨T13, X13, p13, bl13, sl13, st13⟩ := X11.finit hexec hown (wk W (.fieldLink "java/lang/String" 15 "java/lang/String" "coder" "B")) (Or.inr ⟨_, (wk W (.laysFinal "java/lang/String" "java/lang/String" "coder" "B"))⟩) (Or.inl ⟨rfl, hnm⟩) f2 (Or.inl rfl) hB11 (t := .byte) (by decide +kernel) rfl (g := (mkF m 48 #[.val (.ref a), .val (.ref b), .val (.int (Int32.ofNat o)), .val (.int (Int32.ofNat len)), .val .null, .val (.ref s.heap.size)] [.int 0, .ref a])) rfl (rest := []) rfl (hb hbytes d48)
  have c14 : Steps p.tables e below (s₁.setTop (entryFrame m #[.ref a, .ref b, .int (Int32.ofNat o), .int (Int32.ofNat len), .null] 6)) (T13.setTop (mkF m 54 #[.val (.ref a), .val (.ref b), .val (.int (Int32.ofNat o)), .val (.int (Int32.ofNat len)), .val .null, .val (.ref s.heap.size)] [.ref s.heap.size, .ref a])) := (c12.trans (st13 _ (Steps.refl _))).trans (by
    refine XS.aloadN X13.here hexec rfl (hb hbytes d51) rfl rfl ?_
    refine XS.aload X13.here hexec rfl (hb hbytes d52) rfl rfl ?_
    exact Steps.refl _)
  obtain ⟨T15, X15, p15, bl15, sl15, st15⟩ := X13.finit hexec hown (wk W (.fieldLink "java/lang/String" 9 "java/lang/String" "value" "[B")) (Or.inr ⟨_, (wk W (.laysFinal "java/lang/String" "java/lang/String" "value" "[B"))⟩) (Or.inl ⟨rfl, hnm⟩) f1 (Or.inl rfl) bl13 (t := (.array .byte)) (by decide +kernel) rfl (g := (mkF m 54 #[.val (.ref a), .val (.ref b), .val (.int (Int32.ofNat o)), .val (.int (Int32.ofNat len)), .val .null, .val (.ref s.heap.size)] [.ref s.heap.size, .ref a])) rfl (rest := []) rfl (hb hbytes d54)
  have c16 : Steps p.tables e below (s₁.setTop (entryFrame m #[.ref a, .ref b, .int (Int32.ofNat o), .int (Int32.ofNat len), .null] 6)) (T15.setTop (mkF m 57 #[.val (.ref a), .val (.ref b), .val (.int (Int32.ofNat o)), .val (.int (Int32.ofNat len)), .val .null, .val (.ref s.heap.size)] [])) := c14.trans (st15 _ (Steps.refl _))
  have ap := apart (Or.inr ⟨_, (wk W (.laysFinal "java/lang/String" "java/lang/String" "value" "[B"))⟩) (Or.inr ⟨_, (wk W (.laysFinal "java/lang/String" "java/lang/String" "coder" "B"))⟩) f1 f2 (t₁ := .array .byte) (t₂ := .byte) (by decide +kernel) (by decide +kernel) (by decide)
  have al := X8.warmed.alike.symm.trans X15.warmed.alike
  have n7 : T11.heap[s.heap.size]? = some N := by rw [q11]; exact n1.1
  exact ⟨T15, none, _, _, _, X15, by simp, rfl, by omega, (fun _ => rfl), ⟨rfl, _, N, bl15, ((Same.refl D _).set _ (by simp)).set _ (by simp), sl15, (Cell.slots_setSlot_ne _ ap).trans sl13, n1.keep al (p15.other hne (p13.other hne n7)), n2, by rw [al.findClass]; exact n3, n4, n5, fun y c h1 h2 => p15.other h1 (p13.other h1 (by rw [q11]; exact n6 y c h2)), by rw [p15.2.2, p13.2.2, q11]; exact z8⟩, fun fs hl => c16.trans (X15.returnOut hexec hret (hb hbytes d57) hl)⟩
end New4
namespace New1
def yN : MethodName := ⟨"java/lang/String", "<init>", "([C)V"⟩
abbrev yB : ByteArray := jdk_42_method_3_code
theorem d0 : decode yB 0 = .ok (.aload_n 0, 1) := by decide +kernel
theorem d1 : decode yB 1 = .ok (.aload_n 1, 1) := by decide +kernel
theorem d2 : decode yB 2 = .ok (.iconst 0, 1) := by decide +kernel
theorem d3 : decode yB 3 = .ok (.aload_n 1, 1) := by decide +kernel
theorem d4 : decode yB 4 = .ok (.arraylength, 1) := by decide +kernel
theorem d5 : decode yB 5 = .ok (.aconst_null, 1) := by decide +kernel
theorem d6 : decode yB 6 = .ok (.invokespecial 27, 3) := by decide +kernel
theorem d9 : decode yB 9 = .ok (.return_, 1) := by decide +kernel
def site : List Cond := [New4.tab] ++ initW "java/lang/String" 27 New4.yN
def tab : Cond := tabOf yN yB 2 none site
def P (a : Addr) (D : Cell) (fV fC : Field) (b : Addr) (A : Cell) (z : Int32) (args : Array Value) (s : State) : Prop := args = #[.ref a, .ref b] ∧ Blank "java/lang/String" a D s ∧ Found "java/lang/String" "value" "[B" fV s ∧ Found "java/lang/String" "coder" "B" fC s ∧ Ch b A s ∧ StaticIs s "java/lang/String" "COMPACT_STRINGS" "Z" (.int z) ∧ ¬ z = 0 ∧ 0 < A.slots.size ∧ A.slots.size ≤ 536870912 ∧ ∀ i, i < A.slots.size → ¬ 255 < cv A i
def E (a : Addr) (D : Cell) (fV fC : Field) (A : Cell) (r : Option Value) (s u : State) : Prop := Got a D fV fC A 0 A.slots.size r s u
/-- new String(chars), not empty, no char above 255: a Latin-1 String of their low bytes -/
theorem law (l : Launch) (a : Addr) (D : Cell) (fV fC : Field) (b : Addr) (A : Cell) (z : Int32) : Law l yN 2 1 3 52 yB 2 none site (P a D fV fC b A z) (E a D fV fC A) [⟨a, fC.slot⟩, ⟨a, fV.slot⟩] 1 A.slots.size := by
  refine Law.of_walk (plainFor_of_name (by decide +kernel)) (by decide +kernel) (by decide +kernel) (by decide) (fun _ _ h => by rw [h.1]; rfl) (fun _ U U' hal hh h => ⟨h.1, h.2.1.mv hal hh, h.2.2.1.al hal, h.2.2.2.1.al hal, h.2.2.2.2.1.mv hal hh, h.2.2.2.2.2.1.there hal hh, h.2.2.2.2.2.2⟩) (fun r U U' V V' h1 hal h2 h => Got.mv r U U' V V' h1 hal h2 h) ?_
  intro p e s m args below meth c s₁ X0 hexec hbytes hml hret hlk hnm hown hh0 W hP
  obtain ⟨rfl, hB, f1, f2, hA, s1, hz, l0, l2, hp⟩ := hP
  have c1 : Steps p.tables e below (s₁.setTop (entryFrame m #[.ref a, .ref b] 2)) (s₁.setTop (mkF m 0 #[.val (.ref a), .val (.ref b)] [])) := entry rfl
  have c2 : Steps p.tables e below (s₁.setTop (entryFrame m #[.ref a, .ref b] 2)) (s₁.setTop (mkF m 6 #[.val (.ref a), .val (.ref b)] [.null, .int (Int32.ofNat A.slots.size), .int 0, .ref b, .ref a])) := c1.trans (by
    refine XS.aloadN X0.here hexec rfl (hb hbytes d0) rfl rfl ?_
    refine XS.aloadN X0.here hexec rfl (hb hbytes d1) rfl rfl ?_
    refine iconstV X0.here hexec rfl 0 (hb hbytes d2) (by decide) ?_
    refine XS.aloadN X0.here hexec rfl (hb hbytes d3) rfl rfl ?_
    refine X0.alen hexec (hA.1.mv X0.warmed.alike hh0) rfl rfl (hb hbytes d4) ?_
    refine XS.aconstNull X0.here hexec rfl (hb hbytes d5) ?_
    exact Steps.refl _)
  obtain ⟨v3, T3, X3, E3, g3⟩ := X0.callN hexec (New4.law l a D fV fC b A z 0 A.slots.size) rfl hown (wks W (initW "java/lang/String" 27 New4.yN)) (W New4.tab (by simp only [site, List.mem_cons, List.mem_append, true_or, or_true])) (W := 0) (Nat.le_of_ble_eq_true rfl) (Nat.le_of_ble_eq_true rfl) (Nat.le_refl _) (by show 0 + A.slots.size ≤ A.slots.size; omega) (g := (mkF m 6 #[.val (.ref a), .val (.ref b)] [.null, .int (Int32.ofNat A.slots.size), .int (Int32.ofNat 0), .ref b, .ref a])) rfl (by rw [hml]; rfl) c2 (argsL := [.ref b, .int (Int32.ofNat 0), .int (Int32.ofNat A.slots.size), .null]) (rest := []) rfl rfl (by show 2 * 0 + 0 ≤ _; decide) (hb hbytes d6) (⟨rfl, hB.mv X0.warmed.alike hh0, f1.al X0.warmed.alike, f2.al X0.warmed.alike, hA.mv X0.warmed.alike hh0, s1.there X0.warmed.alike hh0, hz, l0, by omega, l2, fun i hi => by rw [Nat.zero_add]; exact hp i hi⟩)
  have e0 := Got.mv _ s₁ s _ _ hh0.symm (Vm.Alike.refl _) rfl E3
  obtain rfl := e0.1
  have c4 : Steps p.tables e below (s₁.setTop (entryFrame m #[.ref a, .ref b] 2)) (T3.setTop (mkF m 9 #[.val (.ref a), .val (.ref b)] [])) := g3
  exact ⟨T3, none, _, _, _, X3, by simp, rfl, by omega, (fun _ => rfl), e0, fun fs hl => c4.trans (X3.returnOut hexec hret (hb hbytes d9) hl)⟩
theorem pays {l : Launch} {R : Room} {p : Program} {e : Env} {below : List Frame} {s : State} {sargs : Array Value} {len W : Nat} (a : Addr) (D : Cell) (fV fC : Field) (b : Addr) (A : Cell) (z : Int32) (htab : tab.before sargs s = true) (hfr : 4 ≤ R.frames) (hlo : W + 65 ≤ R.locals) :
    Back l R p e below s sargs yN len W (fun A₁ a₁ => A₁.cells + 1 ≤ R.cells ∧ A₁.slots + A.slots.size ≤ R.slots ∧ P a D fV fC b A z a₁ A₁.U) (fun A₁ _ v₁ B₁ => E a D fV fC A v₁ A₁.U B₁.U ∧ B₁.locs = A₁.locs ++ [⟨a, fC.slot⟩, ⟨a, fV.slot⟩] ∧ B₁.cells = A₁.cells + 1 ∧ B₁.slots = A₁.slots + A.slots.size) :=
  (law l a D fV fC b A z).pays htab hfr (by omega)
end New1
end StrChars
namespace StrChars.Road
open Jvm Sem ClassFile Op Lib Jvm.Stand Jvm.Free Jvm.Free.XT
open Jvm.Lib.Cold (StaticIs)
abbrev ST : String := "java/lang/String"
/-- every table word that New1's law asks, flat -/
abbrev words : List Jvm.Cond := [.code New1.yN New1.yB 2 none, .initialized ST, .methodLink ST 27 New4.yN, .instanceMethod New4.yN,
  .code New4.yN New4.yB 6 none, .fieldLink ST 38 ST "COMPACT_STRINGS" "Z", .laysFinal ST ST "value" "[B", .fieldLink ST 9 ST "value" "[B", .laysFinal ST ST "coder" "B", .fieldLink ST 15 ST "coder" "B",
  .methodLink ST 1 Lib.objectInit, .instanceMethod Lib.objectInit, .code Lib.objectInit ⟨#[0xb1]⟩ 1 none, .methodLink ST 177 Cmp3.yN, .static Cmp3.yN, .methodLink ST 47 CodL.yN, .static CodL.yN,
  .code Cmp3.yN Cmp3.yB 6 (some (.array .byte)), .initialized U16, .arrayClass .byte, .methodLink U16 115 Cmp5.yN, .static Cmp5.yN, .code Cmp5.yN Cmp5.yB 7 (some .int), .code CodL.yN CodL.yB 2 (some .byte)]
theorem tab_of {a : Array Value} {s : State} (h : ∀ w ∈ words, w.before a s = true) : New1.tab.before a s = true := by
  have h5 : Cmp5.tab.before a s = true := unparts (wk h (.code Cmp5.yN Cmp5.yB 7 (some .int))) (wks h (.initialized Cmp5.yN.cls :: Cmp5.site))
  have hc : CodL.tab.before a s = true := unparts (wk h (.code CodL.yN CodL.yB 2 (some .byte))) (wks h (.initialized CodL.yN.cls :: CodL.site))
  have q5 : ∀ w ∈ Cmp5.tab :: words, w.before a s = true := fun w hw => (List.mem_cons.mp hw).elim (fun e => e ▸ h5) (h w)
  have h3 : Cmp3.tab.before a s = true := unparts (wk q5 (.code Cmp3.yN Cmp3.yB 6 (some (.array .byte)))) (wks q5 (.initialized Cmp3.yN.cls :: Cmp3.site))
  have q3 : ∀ w ∈ Cmp3.tab :: CodL.tab :: words, w.before a s = true := fun w hw => (List.mem_cons.mp hw).elim (fun e => e ▸ h3) fun hw => (List.mem_cons.mp hw).elim (fun e => e ▸ hc) (h w)
  have h4 : New4.tab.before a s = true := unparts (wk q3 (.code New4.yN New4.yB 6 none)) (wks q3 (.initialized New4.yN.cls :: New4.site))
  have q4 : ∀ w ∈ New4.tab :: words, w.before a s = true := fun w hw => (List.mem_cons.mp hw).elim (fun e => e ▸ h4) (h w)
  exact unparts (wk q4 (.code New1.yN New1.yB 2 none)) (wks q4 (.initialized New1.yN.cls :: New1.site))
/-- the words ride from the start Z to the walk's own state -/
theorem moved {Z s : State} {a0 args : Array Value} (hZ : Z.Warmed39 s.vm) (hw : ∀ d ∈ words, d.before a0 Z = true) : ∀ d ∈ words, d.before args s = true := fun d hd => by
  have q := hw d hd
  have t : ∀ d ∈ words, d = .arrayClass .byte ∨ (d.onTables && d.keepsFace) = true := by decide +kernel
  rcases t d hd with rfl | t
  · exact RoadKit.mvA hZ q
  · exact RoadKit.mv hZ q t
/-- WHAT COMES BACK, over the tables of the start Z: h the heap at the call, h' behind it -/
def Q (Z : State) (x : Addr) (A : Cell) (h : Heap) (v : Option Value) (h' : Heap) (L : List Loc) : Prop := v = none ∧ (∀ y ∈ L, y.base = x) ∧ RoadKit.Keep h h' [x] ∧ h'.size = h.size + 1 ∧ RoadKit.Exa Z h' x ST ∧ RoadKit.Fld Z h' x ST "value" "[B" (.ref h.size) ∧ RoadKit.Fld Z h' x ST "coder" "B" (.int 0) ∧
  (∃ V : Cell, RoadKit.Arr Z h' h.size V .byte ∧ V.vm = .none ∧ Z.vm.findClass "[B" = some V.cls ∧ V.slots.size = A.slots.size ∧ ∀ j, j < A.slots.size → V.slots[j]? = some (.int (lo8 (cv A j)))) ∧
  ∀ (O n d : String) (w : Value), RoadKit.Fld Z h x O n d w → RoadKit.slotOf Z O n d ≠ RoadKit.slotOf Z ST "value" "[B" → RoadKit.slotOf Z O n d ≠ RoadKit.slotOf Z ST "coder" "B" → RoadKit.Fld Z h' x O n d w
/-- **new String(chars) AT A CALL, IN THE ROAD'S FORM**: for specialBack behind newO: x the fresh String, b the char[] with the cell A -/
theorem back {p : Program} {l : Launch} {e : Env} {R : Room} {s : State} {args : Array Value} {below : List Frame} {len W : Nat} {Z : State} {a0 : Array Value} {h : Heap} (hZ : Z.Warmed39 s.vm) (hw : ∀ d ∈ words, d.before a0 Z = true) {kI : Nat} (wi : (Jvm.Cond.instantiable ST kI).before a0 Z = true)
    {x b : Addr} {A : Cell} {z : Int32} {v0 c0 : Value} (E : RoadKit.Exa Z h x ST) (V : RoadKit.Fld Z h x ST "value" "[B" v0) (C : RoadKit.Fld Z h x ST "coder" "B" c0) (K : RoadKit.Arr Z h b A .char) (hty : Typed .char A) (S : RoadKit.Sta Z h ST "COMPACT_STRINGS" "Z" (.int z)) (hz : ¬ z = 0)
    (l0 : 0 < A.slots.size) (l2 : A.slots.size ≤ 536870912) (hp : ∀ i, i < A.slots.size → ¬ 255 < cv A i) (hfr : 4 ≤ R.frames) (hlo : W + 65 ≤ R.locals) :
    Back l R p e below s args New1.yN len W (fun P a => a = #[.ref x, .ref b] ∧ P.U.heap = h ∧ P.cells + 1 ≤ R.cells ∧ P.slots + A.slots.size ≤ R.slots)
      (fun P _ v B => ∃ L, Q Z x A h v B.U.heap L ∧ B.locs = P.locs ++ L ∧ B.cells = P.cells + 1 ∧ B.slots = P.slots + A.slots.size) := by
  intro m meth c P g ig mk a X hg hsize hdg hW hn hp'
  obtain ⟨rfl, rfl, r1, r2⟩ := hp'
  have al : Z.vm.Alike P.U.vm := hZ.alike.trans X.warmed.alike
  obtain ⟨D, cfV, kV, iV, fV, hD, gV, stV, knV, obV, asV, slV⟩ := id V
  obtain ⟨D', cfC, kC, iC, fC, hD', gC, stC, -, -, asC, slC⟩ := id C
  cases hD.symm.trans hD'
  obtain ⟨D2, kD, e1, e2, e3, e4, e5⟩ := id E
  cases hD.symm.trans e1
  obtain ⟨c2, k2, i1, i2, i3, -⟩ := Cond.instantiable_spec wi
  cases e2.symm.trans i1
  cases e3.symm.trans i2
  obtain ⟨kU, u1, u2⟩ := al.2.2 _ _ e3
  have hB : Blank ST x D P.U := ⟨hD, ⟨knV, fun q hq => by rw [hq] at obV; cases obV⟩, by rw [al.findClass]; exact e2, kU, u1, by rw [u2]; exact i3, by rw [u2]; exact e5 i3⟩
  have F1 : Found ST "value" "[B" fV P.U := ⟨SBG.found_only al ⟨cfV, kV, iV, gV⟩, stV⟩
  have F2 : Found ST "coder" "B" fC P.U := ⟨SBG.found_only al ⟨cfC, kC, iC, gC⟩, stC⟩
  have hA : Ch b A P.U := ⟨⟨K.1, State.isArrayOf_alike al K.2.1, K.2.2, by omega⟩, hty⟩
  have hS : StaticIs P.U ST "COMPACT_STRINGS" "Z" (.int z) := by
    obtain ⟨cfS, iS, kS, fS, st, cS, t1, t2, t3, t4, t5, t6, t7⟩ := S
    exact StaticIs.there (s := { Z with heap := P.U.heap }) ⟨cfS, iS, kS, fS, st, cS, t1, t2, t3, t4, t5, (fun q => by rw [q] at t6; cases t6), t7⟩ al rfl
  obtain ⟨v, B, X', ⟨⟨hv, E', V', q1, q2, q3, q4, q5, q6, q7, q8, q9, q10, q11⟩, hl, hc, hs⟩, st⟩ := New1.pays x D fV fC b A z (tab_of (moved hZ hw)) hfr hlo m meth c P g ig mk _ X hg hsize hdg hW hn ⟨r1, r2, rfl, hB, F1, F2, hA, hS, hz, l0, l2, hp⟩
  have al' : Z.vm.Alike B.U.vm := hZ.alike.trans X'.warmed.alike
  have hsz : E'.slots.size = D.slots.size := by
    obtain ⟨-, -, -, kB, w1, w2, w3⟩ := q1
    obtain ⟨kB', y1, y2⟩ := al'.2.2 _ _ e3
    rw [q2.2.1] at w1
    cases w1.symm.trans y1
    rw [w3, e5 i3, y2]
  refine ⟨v, B, X', ⟨_, ⟨hv, ?_, ⟨by omega, fun y cy hy hn' => q10 y cy (by simpa using hn') hy, fun y cy hy => ?_⟩, q11, ⟨E', _, q1.1, by rw [q2.2.1]; exact e2, by rw [q2.2.1]; exact e3, by rw [q2.1]; exact obV, fun _ => by rw [hsz]; exact e5 i3⟩,
    ⟨E', cfV, kV, iV, fV, q1.1, gV, stV, by rw [q2.1]; exact knV, by rw [q2.1]; exact obV, by rw [q2.2.1]; exact asV, q3⟩, ⟨E', cfC, kC, iC, fC, q1.1, gC, stC, by rw [q2.1]; exact knV, by rw [q2.1]; exact obV, by rw [q2.2.1]; exact asC, q4⟩,
    ⟨V', ⟨q5.1, State.isArrayOf_alike al'.symm q5.2.1, q5.2.2.1⟩, q6, by rw [← al'.findClass]; exact q7, q8, fun j hj => by have := q9 j hj; rwa [Nat.zero_add] at this⟩, fun O n d w F n1 n2 => ?_⟩, hl, hc, hs⟩, st⟩
  · intro y hy
    simp only [List.mem_cons, List.not_mem_nil, or_false] at hy
    rcases hy with rfl | rfl <;> rfl
  · by_cases q : y = x
    · subst q
      cases hD.symm.trans hy
      exact ⟨E', q1.1, q2.2.1, q2.1, hsz⟩
    · exact ⟨cy, q10 y cy q hy, rfl, rfl, rfl⟩
  · obtain ⟨D3, cf, k, i, f, g1, g2, g3, g4, g5, g6, g7⟩ := F
    cases hD.symm.trans g1
    simp only [RoadKit.slotOf, g2, gV, gC, Option.map_some, Option.getD_some] at n1 n2
    exact ⟨E', cf, k, i, f, q1.1, g2, g3, by rw [q2.1]; exact g4, by rw [q2.1]; exact g5, by rw [q2.2.1]; exact g6, by rw [q2.2.2 f.slot (by simp [n1, n2])]; exact g7⟩
end StrChars.Road
namespace StrChars.Road
open Jvm Sem ClassFile Op Lib Jvm.Stand Jvm.Free Jvm.Free.XT
/-- WHAT COMES BACK, the byte[] as a list of values -/
def QA (Z : State) (x : Addr) (zn : Int32) (cs : List Int32) (h : Heap) (v : Option Value) (h' : Heap) (L : List Loc) : Prop := v = none ∧ (∀ y ∈ L, y.base = x) ∧ RoadKit.Keep h h' [x] ∧ h'.size = h.size + 1 ∧ RoadKit.Exa Z h' x ST ∧ RoadKit.Fld Z h' x ST "value" "[B" (.ref h.size) ∧ RoadKit.Fld Z h' x ST "coder" "B" (.int 0) ∧
  (∃ kb, Z.vm.findClass "[B" = some kb ∧ RoadKit.Arv Z h' h.size kb .byte zn (cs.map fun c => .int (lo8 c)) (.int 0)) ∧
  ∀ (O n d : String) (w : Value), RoadKit.Fld Z h x O n d w → RoadKit.slotOf Z O n d ≠ RoadKit.slotOf Z ST "value" "[B" → RoadKit.slotOf Z O n d ≠ RoadKit.slotOf Z ST "coder" "B" → RoadKit.Fld Z h' x O n d w
/-- **new String(chars) AT A CALL, THE ARRAYS AS LISTS**: the char[] at b holds cs, not empty, no char above 255 -/
theorem backArv {p : Program} {l : Launch} {e : Env} {R : Room} {s : State} {args : Array Value} {below : List Frame} {len W : Nat} {Z : State} {a0 : Array Value} {h : Heap} (hZ : Z.Warmed39 s.vm) (hw : ∀ d ∈ words, d.before a0 Z = true) {kI : Nat} (wi : (Jvm.Cond.instantiable ST kI).before a0 Z = true)
    {x b : Addr} {k : ClassId} {zn z : Int32} {cs : List Int32} {dv v0 c0 : Value} (E : RoadKit.Exa Z h x ST) (V : RoadKit.Fld Z h x ST "value" "[B" v0) (C : RoadKit.Fld Z h x ST "coder" "B" c0) (K : RoadKit.Arv Z h b k .char zn (cs.map Value.int) dv) (S : RoadKit.Sta Z h ST "COMPACT_STRINGS" "Z" (.int z)) (hz : ¬ z = 0)
    (hlen : zn.toNatClampNeg = cs.length) (h0 : 0 < cs.length) (hbig : cs.length ≤ 536870912) (hall : ∀ c ∈ cs, ¬ 255 < c) (hfr : 4 ≤ R.frames) (hlo : W + 65 ≤ R.locals) :
    Back l R p e below s args New1.yN len W (fun P a => a = #[.ref x, .ref b] ∧ P.U.heap = h ∧ P.cells + 1 ≤ R.cells ∧ P.slots + cs.length ≤ R.slots)
      (fun P _ v B => ∃ L, QA Z x zn cs h v B.U.heap L ∧ B.locs = P.locs ++ L ∧ B.cells = P.cells + 1 ∧ B.slots = P.slots + cs.length) := by
  obtain ⟨A, K1, K2, K3, K4, K5, K6⟩ := K
  have e : A.slots.size = cs.length := K3.trans hlen
  have hat : ∀ (i : Nat) (hi : i < cs.length), A.slots[i]? = some (.int cs[i]) := fun i hi => by rw [K5 i (by omega)]; simp [List.getD_eq_getElem?_getD, hi]
  have hcv : ∀ (i : Nat) (hi : i < cs.length), cv A i = cs[i] := fun i hi => by unfold cv; rw [hat i hi]
  have hty : Typed .char A := fun i v hv => by
    have hi : i < A.slots.size := (Array.getElem?_eq_some_iff.mp hv).1
    have q := K5 i hi
    rw [hv] at q
    rw [Option.some.inj q]
    exact K6 i hi
  refine Back.mono (back hZ hw wi E V C K1 hty S hz (by omega) (by omega) (fun i hi => by rw [hcv i (by omega)]; exact hall _ (List.getElem_mem _)) hfr hlo) (fun P a hp => ⟨hp.1, hp.2.1, hp.2.2.1, by rw [e]; exact hp.2.2.2⟩) (fun P a v B hp hq => ?_)
  obtain ⟨L, ⟨q1, q2, q3, q4, q5, q6, q7, ⟨V', v1, v2, v3, v4, v5⟩, q9⟩, hl, hc, hs⟩ := hq
  refine ⟨L, ⟨q1, q2, q3, q4, q5, q6, q7, ⟨V'.cls, v3, V', v1, rfl, by rw [v4, e, hlen], K4, fun i hi => ?_, fun i hi => ?_⟩, q9⟩, hl, hc, by rw [hs, e]⟩
  · have hi' : i < cs.length := by omega
    rw [v5 i (by omega), hcv i hi']; simp [List.getD_eq_getElem?_getD, hi']
  · have hi' : i < cs.length := by omega
    simp only [List.getD_eq_getElem?_getD, List.getElem?_map, List.getElem?_eq_getElem hi', Option.map_some, Option.getD_some]
    exact fits_lo8 _
end StrChars.Road
namespace StrChars.Road
open Jvm Sem ClassFile Op Lib Jvm.Stand Jvm.Free Jvm.Free.XT
/-- WHAT COMES BACK, in the writer's own shape -/
def QV (Z : State) (x : Addr) (N : Int32) (bs : List Int32) (h : Heap) (n0 : Nat) (v : Option Value) (h' : Heap) (L : List Loc) : Prop := v = none ∧ RoadKit.Fr n0 L ∧ RoadKit.Keep h h' [x] ∧ RoadKit.Exa Z h' x ST ∧ RoadKit.Fld Z h' x ST "coder" "B" (.int 0) ∧
  ∃ (t : Addr) (kb : ClassId), n0 ≤ t ∧ h.size ≤ t ∧ ¬ t = x ∧ RoadKit.Fld Z h' x ST "value" "[B" (.ref t) ∧ RoadKit.Arv Z h' t kb .byte N (bs.map Value.int) (.int 0)
/-- **new String(chars) AT A CALL, FOR THE WRITER**: a char[] of n known ints, each 0 to 255 -/
theorem backV {p : Program} {l : Launch} {e : Env} {R : Room} {s : State} {args : Array Value} {below : List Frame} {len W : Nat} {Z : State} {a0 : Array Value} {h : Heap} (hZ : Z.Warmed39 s.vm) (hw : ∀ d ∈ words, d.before a0 Z = true) {kI : Nat} (wi : (Jvm.Cond.instantiable ST kI).before a0 Z = true)
    {x b : Addr} {kC : ClassId} {cs bs : List Int32} {d v0 c0 : Value} {z N : Int32} {n n0 : Nat} (hx0 : n0 ≤ x) (hh0 : n0 ≤ h.size) (E : RoadKit.Exa Z h x ST) (V : RoadKit.Fld Z h x ST "value" "[B" v0) (C : RoadKit.Fld Z h x ST "coder" "B" c0) (K : RoadKit.Arv Z h b kC .char N (cs.map Value.int) d) (S : RoadKit.Sta Z h ST "COMPACT_STRINGS" "Z" (.int z)) (hz : ¬ z = 0)
    (hn : cs.length = n) (hN : N = Int32.ofNat n) (l0 : 0 < n) (l2 : n ≤ 4000) (hp : ∀ c ∈ cs, ¬ c < 0 ∧ ¬ (255 : Int32) < c) (hb : bs = cs.map (fun c => c.toInt8.toInt32)) (hfr : 4 ≤ R.frames) (hlo : W + 65 ≤ R.locals) :
    Back l R p e below s args (⟨"java/lang/String", "<init>", "([C)V"⟩ : MethodName) len W (fun P a => a = #[.ref x, .ref b] ∧ P.U.heap = h ∧ P.cells + 1 ≤ R.cells ∧ P.slots + n ≤ R.slots)
      (fun P _ v B => ∃ L, QV Z x N bs h n0 v B.U.heap L ∧ B.locs = P.locs ++ L ∧ B.cells = P.cells + 1 ∧ B.slots = P.slots + n) := by
  subst hn hN hb
  refine Back.mono (backArv hZ hw wi E V C K S hz (n32 (by omega)) l0 (by omega) (fun c hc => (hp c hc).2) hfr hlo) (fun P a hp => hp) (fun P a v B hp hq => ?_)
  obtain ⟨L, ⟨q1, q2, q3, q4, q5, q6, q7, ⟨kb, v1, v2⟩, q9⟩, hl, hc, hs⟩ := hq
  exact ⟨L, ⟨q1, fun y hy => by rw [q2 y hy]; exact hx0, q3, q5, q7, h.size, kb, hh0, Nat.le_refl _, Nat.ne_of_gt E.lt, q6, by rw [List.map_map]; exact v2⟩, hl, hc, hs⟩
end StrChars.Road
end Jvm.Pilot.@@N@@

namespace Jvm.RoadKit
open Sem ClassFile Op Lib Jvm.Stand Jvm.Free Jvm.LawKit
section New
variable {p : Program} {l : Launch} {e : Env} {R : Room} {s : State} {m : MethodId} {args : Array Value} {below : List Frame} {meth : Method} {c : Code} {T : State} {locs : List Loc} {cells slots : Nat}
theorem retI (X : Stand p l e R s m args below meth c T locs cells slots) (hx : p.tables.exec = Jvm.exec) {pc : Nat} {Ls : Array Slot} {z : Int32} {rest : List Value} (hret : meth.sig.returnType = some .int) (hd : decode c.code pc = .ok (.ireturn, 1)) {fs : List Frame}
    (hl : ∀ (f : JFrame) (acts : List Action), f.method = m → f.locked = none → f.entered = [] → (doReturn e (T.setTop f) acts (some (.int z))).1 = T.setFrames fs) : Steps p.tables e below (T.setTop (mkF m pc Ls (.int z :: rest))) (T.setFrames fs) := by
  have hm' : T.vm.method? m = some meth := X.method'
  have hn : narrow .int (.int z) = .int z := rfl
  show Steps p.tables e below (T.setTop { method := m, pc := pc, locals := Ls, stack := _ :: rest, locked := none }) _
  jvm_step X.here [X.here.top, hx, hd, hm', hret, hn]
  first | (intro acts; rw [hl _ acts rfl rfl rfl]) | rw [hl _ _ rfl rfl rfl]
  exact Steps.refl _
end New
end Jvm.RoadKit
namespace Jvm.Pilot.@@N@@
open Jvm Jvm.ClassFile Sem Op Lib Jvm.Free Jvm.Stand Jvm.LawKit Jvm.RoadKit Bundle Jvm.Pilot.@@N@@.Jvm.D
/-! ## Go: a walk as a proposition, read backwards -/
def Cx (p : Program) (s : State) (m : MethodId) (meth : Method) (c : Code) (Z : State) (own nm : String) (code : ByteArray) (ml : Nat) (ret : Option FieldType) : Prop :=
  p.tables.exec = Jvm.exec ∧ c.code = code ∧ c.maxLocals = ml ∧ s.vm.findClass own = some m.cls ∧ Z.Warmed39 s.vm ∧ meth.name = nm ∧ meth.sig.returnType = ret ∧ meth.locks = false
def Go (p : Program) (l : Launch) (e : Env) (R : Room) (s : State) (m : MethodId) (args : Array Value) (below : List Frame) (meth : Method) (c : Code) (Ph : State → Option Value → Prop) (n0 : Nat) (h : Heap) (k n : Nat) (pc : Nat) (Ls : Array Slot) (st : List Value) : Prop :=
  ∀ T locs, Stand p l e R s m args below meth c T locs k n → Fr n0 locs → T.heap = h → ∃ s₂ v, Steps p.tables e below (T.setTop (mkF m pc Ls st)) s₂ ∧ Ph s₂ v
section GoRules
variable {p : Program} {l : Launch} {e : Env} {R : Room} {s : State} {m : MethodId} {args : Array Value} {below : List Frame} {meth : Method} {c : Code} {Ph : State → Option Value → Prop} {n0 : Nat} {h : Heap} {k n : Nat} {pc q : Nat} {Ls : Array Slot} {st rest : List Value} {Z : State} {a0 : Array Value} {own nm : String} {code : ByteArray} {ml : Nat} {ret : Option FieldType}
theorem Go.pl {pc' : Nat} {Ls' : Array Slot} {st' : List Value} (H : ∀ (T target : State), At T m c below → Steps p.tables e below (T.setTop (mkF m pc' Ls' st')) target → Steps p.tables e below (T.setTop (mkF m pc Ls st)) target) (K : Go p l e R s m args below meth c Ph n0 h k n pc' Ls' st') : Go p l e R s m args below meth c Ph n0 h k n pc Ls st :=
  fun T locs X N eT => by obtain ⟨s₂, v, S, r⟩ := K T locs X N eT; exact ⟨s₂, v, H T s₂ X.here S, r⟩
theorem Go.more {k' n' : Nat} (hk : k ≤ k') (hn : n ≤ n') (K : Go p l e R s m args below meth c Ph n0 h k' n' pc Ls st) : Go p l e R s m args below meth c Ph n0 h k n pc Ls st := fun T locs X N eT => K T locs (X.loosen hk hn) N eT
theorem Go.low {n1 : Nat} (hn : n0 ≤ n1) (K : Go p l e R s m args below meth c Ph n0 h k n pc Ls st) : Go p l e R s m args below meth c Ph n1 h k n pc Ls st := fun T locs X N eT => K T locs X (fun y hy => Nat.le_trans hn (N y hy)) eT
theorem Go.join {pc' : Nat} {Ls' : Array Slot} {st' : List Value} (J : Go p l e R s m args below meth c Ph n0 h k n pc' Ls' st') (K : Go p l e R s m args below meth c Ph n0 h k n pc' Ls' st' → Go p l e R s m args below meth c Ph n0 h k n pc Ls st) : Go p l e R s m args below meth c Ph n0 h k n pc Ls st := K J
theorem Go.joinR {α : Sort _} {pc' : Nat} (P' : α → Prop) (Ls' : α → Array Slot) (st' : α → List Value) (J : ∀ r, P' r → Go p l e R s m args below meth c Ph n0 h k n pc' (Ls' r) (st' r)) (K : (∀ r, P' r → Go p l e R s m args below meth c Ph n0 h k n pc' (Ls' r) (st' r)) → Go p l e R s m args below meth c Ph n0 h k n pc Ls st) : Go p l e R s m args below meth c Ph n0 h k n pc Ls st := K J
theorem Go.cast {pc' : Nat} {Ls' : Array Slot} {st' : List Value} (e1 : pc' = pc) (e2 : Ls' = Ls) (e3 : st' = st) (K : Go p l e R s m args below meth c Ph n0 h k n pc' Ls' st') : Go p l e R s m args below meth c Ph n0 h k n pc Ls st := by subst e1 e2 e3; exact K
theorem g_iloadN (C : Cx p s m meth c Z own nm code ml ret) {i : Fin 4} {v : Int32} (d : decode code pc = .ok (.iload_n i, 1)) (hl : Ls[i.val]? = some (.val (.int v))) (hq : pc + 1 = q) (K : Go p l e R s m args below meth c Ph n0 h k n q Ls (.int v :: st)) : Go p l e R s m args below meth c Ph n0 h k n pc Ls (st) :=
  Go.pl (fun T t A S => XS.iloadN A C.1 rfl (hb C.2.1 d) hl (by subst hq; exact S)) K
theorem g_iload (C : Cx p s m meth c Z own nm code ml ret) {i : Nat} {v : Int32} (d : decode code pc = .ok (.iload i, 2)) (hl : Ls[i]? = some (.val (.int v))) (hq : pc + 2 = q) (K : Go p l e R s m args below meth c Ph n0 h k n q Ls (.int v :: st)) : Go p l e R s m args below meth c Ph n0 h k n pc Ls (st) :=
  Go.pl (fun T t A S => XS.iload A C.1 rfl (hb C.2.1 d) hl (by subst hq; exact S)) K
theorem g_istoreN (C : Cx p s m meth c Z own nm code ml ret) {i : Fin 4} {v : Int32} {L' : Array Slot} (d : decode code pc = .ok (.istore_n i, 1))  (hl : storeLocals Ls i.val (.int v) = some L') (hq : pc + 1 = q) (K : Go p l e R s m args below meth c Ph n0 h k n q L' (st)) : Go p l e R s m args below meth c Ph n0 h k n pc Ls (.int v :: st) :=
  Go.pl (fun T t A S => XS.istoreN A C.1 rfl (hb C.2.1 d) rfl hl (by subst hq; exact S)) K
theorem g_istore (C : Cx p s m meth c Z own nm code ml ret) {i : Nat} {v : Int32} {L' : Array Slot} (d : decode code pc = .ok (.istore i, 2))  (hl : storeLocals Ls i (.int v) = some L') (hq : pc + 2 = q) (K : Go p l e R s m args below meth c Ph n0 h k n q L' (st)) : Go p l e R s m args below meth c Ph n0 h k n pc Ls (.int v :: st) :=
  Go.pl (fun T t A S => XS.istore A C.1 rfl (hb C.2.1 d) rfl hl (by subst hq; exact S)) K
theorem g_lloadN (C : Cx p s m meth c Z own nm code ml ret) {i : Fin 4} {v : Int64} (d : decode code pc = .ok (.lload_n i, 1)) (hl : Ls[i.val]? = some (.val (.long v))) (hq : pc + 1 = q) (K : Go p l e R s m args below meth c Ph n0 h k n q Ls (.long v :: st)) : Go p l e R s m args below meth c Ph n0 h k n pc Ls (st) :=
  Go.pl (fun T t A S => XT.lloadN A C.1 rfl (hb C.2.1 d) hl (by subst hq; exact S)) K
theorem g_lload (C : Cx p s m meth c Z own nm code ml ret) {i : Nat} {v : Int64} (d : decode code pc = .ok (.lload i, 2)) (hl : Ls[i]? = some (.val (.long v))) (hq : pc + 2 = q) (K : Go p l e R s m args below meth c Ph n0 h k n q Ls (.long v :: st)) : Go p l e R s m args below meth c Ph n0 h k n pc Ls (st) :=
  Go.pl (fun T t A S => XT.lload A C.1 rfl (hb C.2.1 d) hl (by subst hq; exact S)) K
theorem g_lstoreN (C : Cx p s m meth c Z own nm code ml ret) {i : Fin 4} {v : Int64} {L' : Array Slot} (d : decode code pc = .ok (.lstore_n i, 1))  (hl : storeLocals Ls i.val (.long v) = some L') (hq : pc + 1 = q) (K : Go p l e R s m args below meth c Ph n0 h k n q L' (st)) : Go p l e R s m args below meth c Ph n0 h k n pc Ls (.long v :: st) :=
  Go.pl (fun T t A S => XT.lstoreN A C.1 rfl (hb C.2.1 d) rfl hl (by subst hq; exact S)) K
theorem g_lstore (C : Cx p s m meth c Z own nm code ml ret) {i : Nat} {v : Int64} {L' : Array Slot} (d : decode code pc = .ok (.lstore i, 2))  (hl : storeLocals Ls i (.long v) = some L') (hq : pc + 2 = q) (K : Go p l e R s m args below meth c Ph n0 h k n q L' (st)) : Go p l e R s m args below meth c Ph n0 h k n pc Ls (.long v :: st) :=
  Go.pl (fun T t A S => XT.lstore A C.1 rfl (hb C.2.1 d) rfl hl (by subst hq; exact S)) K
theorem g_aloadN (C : Cx p s m meth c Z own nm code ml ret) {i : Fin 4} {v : Value} (d : decode code pc = .ok (.aload_n i, 1)) (hl : Ls[i.val]? = some (.val v)) (hv : v.isRef = true) (hq : pc + 1 = q) (K : Go p l e R s m args below meth c Ph n0 h k n q Ls (v :: st)) : Go p l e R s m args below meth c Ph n0 h k n pc Ls (st) :=
  Go.pl (fun T t A S => XS.aloadN A C.1 rfl (hb C.2.1 d) hl hv (by subst hq; exact S)) K
theorem g_aload (C : Cx p s m meth c Z own nm code ml ret) {i : Nat} {v : Value} (d : decode code pc = .ok (.aload i, 2)) (hl : Ls[i]? = some (.val v)) (hv : v.isRef = true) (hq : pc + 2 = q) (K : Go p l e R s m args below meth c Ph n0 h k n q Ls (v :: st)) : Go p l e R s m args below meth c Ph n0 h k n pc Ls (st) :=
  Go.pl (fun T t A S => XS.aload A C.1 rfl (hb C.2.1 d) hl hv (by subst hq; exact S)) K
theorem g_astoreN (C : Cx p s m meth c Z own nm code ml ret) {i : Fin 4} {v : Value} {L' : Array Slot} (d : decode code pc = .ok (.astore_n i, 1))  (hv : v.isRef = true) (hl : storeLocals Ls i.val (v) = some L') (hq : pc + 1 = q) (K : Go p l e R s m args below meth c Ph n0 h k n q L' (st)) : Go p l e R s m args below meth c Ph n0 h k n pc Ls (v :: st) :=
  Go.pl (fun T t A S => XS.astoreN A C.1 rfl (hb C.2.1 d) rfl hv hl (by subst hq; exact S)) K
theorem g_astore (C : Cx p s m meth c Z own nm code ml ret) {i : Nat} {v : Value} {L' : Array Slot} (d : decode code pc = .ok (.astore i, 2))  (hv : v.isRef = true) (hl : storeLocals Ls i (v) = some L') (hq : pc + 2 = q) (K : Go p l e R s m args below meth c Ph n0 h k n q L' (st)) : Go p l e R s m args below meth c Ph n0 h k n pc Ls (v :: st) :=
  Go.pl (fun T t A S => XS.astore A C.1 rfl (hb C.2.1 d) rfl hv hl (by subst hq; exact S)) K
theorem g_iinc (C : Cx p s m meth c Z own nm code ml ret) {i : Nat} {cst : Int} {v : Int32} {L' : Array Slot} (d : decode code pc = .ok (.iinc i cst, 3)) (hl : Ls[i]? = some (.val (.int v))) (hl' : storeLocals Ls i (.int (v + Int32.ofInt cst)) = some L') (hq : pc + 3 = q) (K : Go p l e R s m args below meth c Ph n0 h k n q L' (st)) : Go p l e R s m args below meth c Ph n0 h k n pc Ls (st) :=
  Go.pl (fun T t A S => XS.iinc A C.1 rfl (hb C.2.1 d) hl hl' (by subst hq; exact S)) K
theorem g_iconst (C : Cx p s m meth c Z own nm code ml ret) {i : Int} {z : Int32} (d : decode code pc = .ok (.iconst i, 1)) (hz : Int32.ofInt i = z) (hq : pc + 1 = q) (K : Go p l e R s m args below meth c Ph n0 h k n q Ls (.int z :: st)) : Go p l e R s m args below meth c Ph n0 h k n pc Ls st :=
  Go.pl (fun T t A S => XS.iconst A C.1 rfl (hb C.2.1 d) (by subst hq hz; exact S)) K
theorem g_bipush (C : Cx p s m meth c Z own nm code ml ret) {i : Int} {z : Int32} (d : decode code pc = .ok (.bipush i, 2)) (hz : (Int8.ofInt i).toInt32 = z) (hq : pc + 2 = q) (K : Go p l e R s m args below meth c Ph n0 h k n q Ls (.int z :: st)) : Go p l e R s m args below meth c Ph n0 h k n pc Ls st :=
  Go.pl (fun T t A S => XS.bipush A C.1 rfl (hb C.2.1 d) (by subst hq hz; exact S)) K
theorem g_sipush (C : Cx p s m meth c Z own nm code ml ret) {i : Int} {z : Int32} (d : decode code pc = .ok (.sipush i, 3)) (hz : (Int16.ofInt i).toInt32 = z) (hq : pc + 3 = q) (K : Go p l e R s m args below meth c Ph n0 h k n q Ls (.int z :: st)) : Go p l e R s m args below meth c Ph n0 h k n pc Ls st :=
  Go.pl (fun T t A S => XS.sipush A C.1 rfl (hb C.2.1 d) (by subst hq hz; exact S)) K
theorem g_lconst (C : Cx p s m meth c Z own nm code ml ret) {i : Fin 2} {z : Int64} (d : decode code pc = .ok (.lconst i, 1)) (hz : Int64.ofNat i = z) (hq : pc + 1 = q) (K : Go p l e R s m args below meth c Ph n0 h k n q Ls (.long z :: st)) : Go p l e R s m args below meth c Ph n0 h k n pc Ls st :=
  Go.pl (fun T t A S => XT.lconst A C.1 rfl (hb C.2.1 d) (by subst hq hz; exact S)) K
theorem g_aconst_null (C : Cx p s m meth c Z own nm code ml ret)  (d : decode code pc = .ok (.aconst_null, 1))  (hq : pc + 1 = q) (K : Go p l e R s m args below meth c Ph n0 h k n q Ls (.null :: st)) : Go p l e R s m args below meth c Ph n0 h k n pc Ls (st) :=
  Go.pl (fun T t A S => XS.aconstNull A C.1 rfl (hb C.2.1 d)  (by subst hq; exact S)) K
theorem g_dup (C : Cx p s m meth c Z own nm code ml ret) {x : Value} (d : decode code pc = .ok (.dup, 1)) (hc : x.category = 1) (hq : pc + 1 = q) (K : Go p l e R s m args below meth c Ph n0 h k n q Ls (x :: x :: st)) : Go p l e R s m args below meth c Ph n0 h k n pc Ls (x :: st) :=
  Go.pl (fun T t A S => XS.dup A C.1 rfl (hb C.2.1 d) rfl hc (by subst hq; exact S)) K
theorem g_pop (C : Cx p s m meth c Z own nm code ml ret) {x : Value} (d : decode code pc = .ok (.pop, 1)) (hc : x.category = 1) (hq : pc + 1 = q) (K : Go p l e R s m args below meth c Ph n0 h k n q Ls (st)) : Go p l e R s m args below meth c Ph n0 h k n pc Ls (x :: st) :=
  Go.pl (fun T t A S => XT.pop A C.1 rfl (hb C.2.1 d) rfl hc (by subst hq; exact S)) K
theorem g_dup_x1 (C : Cx p s m meth c Z own nm code ml ret) {x y : Value} (d : decode code pc = .ok (.dup_x1, 1)) (hc : x.category = 1) (hc' : y.category = 1) (hq : pc + 1 = q) (K : Go p l e R s m args below meth c Ph n0 h k n q Ls (x :: y :: x :: st)) : Go p l e R s m args below meth c Ph n0 h k n pc Ls (x :: y :: st) :=
  Go.pl (fun T t A S => XT.dupX1 A C.1 rfl (hb C.2.1 d) rfl hc hc' (by subst hq; exact S)) K
theorem g_dup2 (C : Cx p s m meth c Z own nm code ml ret) {x y : Value} (d : decode code pc = .ok (.dup2, 1)) (hc : x.category = 1) (hc' : y.category = 1) (hq : pc + 1 = q) (K : Go p l e R s m args below meth c Ph n0 h k n q Ls (x :: y :: x :: y :: st)) : Go p l e R s m args below meth c Ph n0 h k n pc Ls (x :: y :: st) :=
  Go.pl (fun T t A S => XT.dup2 A C.1 rfl (hb C.2.1 d) rfl hc hc' (by subst hq; exact S)) K
theorem g_dup2L (C : Cx p s m meth c Z own nm code ml ret) {x : Int64} (d : decode code pc = .ok (.dup2, 1))  (hq : pc + 1 = q) (K : Go p l e R s m args below meth c Ph n0 h k n q Ls (.long x :: .long x :: st)) : Go p l e R s m args below meth c Ph n0 h k n pc Ls (.long x :: st) :=
  Go.pl (fun T t A S => XT.dup2L A C.1 rfl (hb C.2.1 d) rfl (by subst hq; exact S)) K
theorem g_iadd (C : Cx p s m meth c Z own nm code ml ret) {x y : Int32} (d : decode code pc = .ok (.iadd, 1))  (hq : pc + 1 = q) (K : Go p l e R s m args below meth c Ph n0 h k n q Ls (.int (x + y) :: st)) : Go p l e R s m args below meth c Ph n0 h k n pc Ls (.int y :: .int x :: st) :=
  Go.pl (fun T t A S => XS.iadd A C.1 rfl (hb C.2.1 d) rfl (by subst hq; exact S)) K
theorem g_isub (C : Cx p s m meth c Z own nm code ml ret) {x y : Int32} (d : decode code pc = .ok (.isub, 1))  (hq : pc + 1 = q) (K : Go p l e R s m args below meth c Ph n0 h k n q Ls (.int (x - y) :: st)) : Go p l e R s m args below meth c Ph n0 h k n pc Ls (.int y :: .int x :: st) :=
  Go.pl (fun T t A S => XS.isub A C.1 rfl (hb C.2.1 d) rfl (by subst hq; exact S)) K
theorem g_imul (C : Cx p s m meth c Z own nm code ml ret) {x y : Int32} (d : decode code pc = .ok (.imul, 1))  (hq : pc + 1 = q) (K : Go p l e R s m args below meth c Ph n0 h k n q Ls (.int (x * y) :: st)) : Go p l e R s m args below meth c Ph n0 h k n pc Ls (.int y :: .int x :: st) :=
  Go.pl (fun T t A S => XS.imul A C.1 rfl (hb C.2.1 d) rfl (by subst hq; exact S)) K
theorem g_iand (C : Cx p s m meth c Z own nm code ml ret) {x y : Int32} (d : decode code pc = .ok (.iand, 1))  (hq : pc + 1 = q) (K : Go p l e R s m args below meth c Ph n0 h k n q Ls (.int (x &&& y) :: st)) : Go p l e R s m args below meth c Ph n0 h k n pc Ls (.int y :: .int x :: st) :=
  Go.pl (fun T t A S => XS.iand A C.1 rfl (hb C.2.1 d) rfl (by subst hq; exact S)) K
theorem g_ior (C : Cx p s m meth c Z own nm code ml ret) {x y : Int32} (d : decode code pc = .ok (.ior, 1))  (hq : pc + 1 = q) (K : Go p l e R s m args below meth c Ph n0 h k n q Ls (.int (x ||| y) :: st)) : Go p l e R s m args below meth c Ph n0 h k n pc Ls (.int y :: .int x :: st) :=
  Go.pl (fun T t A S => XT.ior A C.1 rfl (hb C.2.1 d) rfl (by subst hq; exact S)) K
theorem g_ixor (C : Cx p s m meth c Z own nm code ml ret) {x y : Int32} (d : decode code pc = .ok (.ixor, 1))  (hq : pc + 1 = q) (K : Go p l e R s m args below meth c Ph n0 h k n q Ls (.int (x ^^^ y) :: st)) : Go p l e R s m args below meth c Ph n0 h k n pc Ls (.int y :: .int x :: st) :=
  Go.pl (fun T t A S => XT.ixor A C.1 rfl (hb C.2.1 d) rfl (by subst hq; exact S)) K
theorem g_ishl (C : Cx p s m meth c Z own nm code ml ret) {x y : Int32} (d : decode code pc = .ok (.ishl, 1))  (hq : pc + 1 = q) (K : Go p l e R s m args below meth c Ph n0 h k n q Ls (.int (x <<< (y &&& 31)) :: st)) : Go p l e R s m args below meth c Ph n0 h k n pc Ls (.int y :: .int x :: st) :=
  Go.pl (fun T t A S => XT.ishl A C.1 rfl (hb C.2.1 d) rfl (by subst hq; exact S)) K
theorem g_ishr (C : Cx p s m meth c Z own nm code ml ret) {x y : Int32} (d : decode code pc = .ok (.ishr, 1))  (hq : pc + 1 = q) (K : Go p l e R s m args below meth c Ph n0 h k n q Ls (.int (x >>> (y &&& 31)) :: st)) : Go p l e R s m args below meth c Ph n0 h k n pc Ls (.int y :: .int x :: st) :=
  Go.pl (fun T t A S => XT.ishr A C.1 rfl (hb C.2.1 d) rfl (by subst hq; exact S)) K
theorem g_iushr (C : Cx p s m meth c Z own nm code ml ret) {x y : Int32} (d : decode code pc = .ok (.iushr, 1))  (hq : pc + 1 = q) (K : Go p l e R s m args below meth c Ph n0 h k n q Ls (.int (XT.ushr x y) :: st)) : Go p l e R s m args below meth c Ph n0 h k n pc Ls (.int y :: .int x :: st) :=
  Go.pl (fun T t A S => XT.iushr A C.1 rfl (hb C.2.1 d) rfl (by subst hq; exact S)) K
theorem g_idiv (C : Cx p s m meth c Z own nm code ml ret) {x y : Int32} (d : decode code pc = .ok (.idiv, 1)) (hy : y ≠ 0) (hq : pc + 1 = q) (K : Go p l e R s m args below meth c Ph n0 h k n q Ls (.int (x / y) :: st)) : Go p l e R s m args below meth c Ph n0 h k n pc Ls (.int y :: .int x :: st) :=
  Go.pl (fun T t A S => XS.idiv A C.1 rfl (hb C.2.1 d) rfl hy (by subst hq; exact S)) K
theorem g_irem (C : Cx p s m meth c Z own nm code ml ret) {x y : Int32} (d : decode code pc = .ok (.irem, 1)) (hy : y ≠ 0) (hq : pc + 1 = q) (K : Go p l e R s m args below meth c Ph n0 h k n q Ls (.int (x % y) :: st)) : Go p l e R s m args below meth c Ph n0 h k n pc Ls (.int y :: .int x :: st) :=
  Go.pl (fun T t A S => XS.irem A C.1 rfl (hb C.2.1 d) rfl hy (by subst hq; rw [irem_eq_mod x y]; exact S)) K
theorem g_ineg (C : Cx p s m meth c Z own nm code ml ret) {x : Int32} (d : decode code pc = .ok (.ineg, 1))  (hq : pc + 1 = q) (K : Go p l e R s m args below meth c Ph n0 h k n q Ls (.int (-x) :: st)) : Go p l e R s m args below meth c Ph n0 h k n pc Ls (.int x :: st) :=
  Go.pl (fun T t A S => XS.ineg A C.1 rfl (hb C.2.1 d) rfl (by subst hq; exact S)) K
theorem g_ladd (C : Cx p s m meth c Z own nm code ml ret) {x y : Int64} (d : decode code pc = .ok (.ladd, 1))  (hq : pc + 1 = q) (K : Go p l e R s m args below meth c Ph n0 h k n q Ls (.long (x + y) :: st)) : Go p l e R s m args below meth c Ph n0 h k n pc Ls (.long y :: .long x :: st) :=
  Go.pl (fun T t A S => XT.ladd A C.1 rfl (hb C.2.1 d) rfl (by subst hq; exact S)) K
theorem g_lsub (C : Cx p s m meth c Z own nm code ml ret) {x y : Int64} (d : decode code pc = .ok (.lsub, 1))  (hq : pc + 1 = q) (K : Go p l e R s m args below meth c Ph n0 h k n q Ls (.long (x - y) :: st)) : Go p l e R s m args below meth c Ph n0 h k n pc Ls (.long y :: .long x :: st) :=
  Go.pl (fun T t A S => XT.lsub A C.1 rfl (hb C.2.1 d) rfl (by subst hq; exact S)) K
theorem g_lmul (C : Cx p s m meth c Z own nm code ml ret) {x y : Int64} (d : decode code pc = .ok (.lmul, 1))  (hq : pc + 1 = q) (K : Go p l e R s m args below meth c Ph n0 h k n q Ls (.long (x * y) :: st)) : Go p l e R s m args below meth c Ph n0 h k n pc Ls (.long y :: .long x :: st) :=
  Go.pl (fun T t A S => XT.lmul A C.1 rfl (hb C.2.1 d) rfl (by subst hq; exact S)) K
theorem g_land (C : Cx p s m meth c Z own nm code ml ret) {x y : Int64} (d : decode code pc = .ok (.land, 1))  (hq : pc + 1 = q) (K : Go p l e R s m args below meth c Ph n0 h k n q Ls (.long (x &&& y) :: st)) : Go p l e R s m args below meth c Ph n0 h k n pc Ls (.long y :: .long x :: st) :=
  Go.pl (fun T t A S => XT.land A C.1 rfl (hb C.2.1 d) rfl (by subst hq; exact S)) K
theorem g_lor (C : Cx p s m meth c Z own nm code ml ret) {x y : Int64} (d : decode code pc = .ok (.lor, 1))  (hq : pc + 1 = q) (K : Go p l e R s m args below meth c Ph n0 h k n q Ls (.long (x ||| y) :: st)) : Go p l e R s m args below meth c Ph n0 h k n pc Ls (.long y :: .long x :: st) :=
  Go.pl (fun T t A S => XT.lor A C.1 rfl (hb C.2.1 d) rfl (by subst hq; exact S)) K
theorem g_lxor (C : Cx p s m meth c Z own nm code ml ret) {x y : Int64} (d : decode code pc = .ok (.lxor, 1))  (hq : pc + 1 = q) (K : Go p l e R s m args below meth c Ph n0 h k n q Ls (.long (x ^^^ y) :: st)) : Go p l e R s m args below meth c Ph n0 h k n pc Ls (.long y :: .long x :: st) :=
  Go.pl (fun T t A S => XT.lxor A C.1 rfl (hb C.2.1 d) rfl (by subst hq; exact S)) K
theorem g_lushr (C : Cx p s m meth c Z own nm code ml ret) {x : Int64} {y : Int32} (d : decode code pc = .ok (.lushr, 1))  (hq : pc + 1 = q) (K : Go p l e R s m args below meth c Ph n0 h k n q Ls (.long (XT.ushrL x y) :: st)) : Go p l e R s m args below meth c Ph n0 h k n pc Ls (.int y :: .long x :: st) :=
  Go.pl (fun T t A S => XT.lushr A C.1 rfl (hb C.2.1 d) rfl (by subst hq; exact S)) K
theorem g_lcmp (C : Cx p s m meth c Z own nm code ml ret) {x y : Int64} (d : decode code pc = .ok (.lcmp, 1))  (hq : pc + 1 = q) (K : Go p l e R s m args below meth c Ph n0 h k n q Ls (.int (XT.cmpL x y) :: st)) : Go p l e R s m args below meth c Ph n0 h k n pc Ls (.long y :: .long x :: st) :=
  Go.pl (fun T t A S => XT.lcmp A C.1 rfl (hb C.2.1 d) rfl (by subst hq; exact S)) K
theorem g_i2l (C : Cx p s m meth c Z own nm code ml ret) {x : Int32} (d : decode code pc = .ok (.i2l, 1))  (hq : pc + 1 = q) (K : Go p l e R s m args below meth c Ph n0 h k n q Ls (.long (x.toInt64) :: st)) : Go p l e R s m args below meth c Ph n0 h k n pc Ls (.int x :: st) :=
  Go.pl (fun T t A S => XT.i2l A C.1 rfl (hb C.2.1 d) rfl (by subst hq; exact S)) K
theorem g_l2i (C : Cx p s m meth c Z own nm code ml ret) {x : Int64} (d : decode code pc = .ok (.l2i, 1))  (hq : pc + 1 = q) (K : Go p l e R s m args below meth c Ph n0 h k n q Ls (.int (x.toInt32) :: st)) : Go p l e R s m args below meth c Ph n0 h k n pc Ls (.long x :: st) :=
  Go.pl (fun T t A S => XT.l2i A C.1 rfl (hb C.2.1 d) rfl (by subst hq; exact S)) K
theorem g_i2b (C : Cx p s m meth c Z own nm code ml ret) {x : Int32} (d : decode code pc = .ok (.i2b, 1))  (hq : pc + 1 = q) (K : Go p l e R s m args below meth c Ph n0 h k n q Ls (.int (x.toInt8.toInt32) :: st)) : Go p l e R s m args below meth c Ph n0 h k n pc Ls (.int x :: st) :=
  Go.pl (fun T t A S => XT.i2b A C.1 rfl (hb C.2.1 d) rfl (by subst hq; exact S)) K
theorem g_i2c (C : Cx p s m meth c Z own nm code ml ret) {x : Int32} (d : decode code pc = .ok (.i2c, 1))  (hq : pc + 1 = q) (K : Go p l e R s m args below meth c Ph n0 h k n q Ls (.int (x.toUInt32.toUInt16.toUInt32.toInt32) :: st)) : Go p l e R s m args below meth c Ph n0 h k n pc Ls (.int x :: st) :=
  Go.pl (fun T t A S => XT.i2c A C.1 rfl (hb C.2.1 d) rfl (by subst hq; exact S)) K
theorem g_i2s (C : Cx p s m meth c Z own nm code ml ret) {x : Int32} (d : decode code pc = .ok (.i2s, 1))  (hq : pc + 1 = q) (K : Go p l e R s m args below meth c Ph n0 h k n q Ls (.int (x.toInt16.toInt32) :: st)) : Go p l e R s m args below meth c Ph n0 h k n pc Ls (.int x :: st) :=
  Go.pl (fun T t A S => XT.i2s A C.1 rfl (hb C.2.1 d) rfl (by subst hq; exact S)) K
theorem g_goto (C : Cx p s m meth c Z own nm code ml ret) {o : Int} (d : decode code pc = .ok (.goto o, 3)) (ho : 0 ≤ (pc : Int) + o) (hq : ((pc : Int) + o).toNat = q) (K : Go p l e R s m args below meth c Ph n0 h k n q Ls st) : Go p l e R s m args below meth c Ph n0 h k n pc Ls st :=
  Go.pl (fun T t A S => XS.goto A C.1 rfl rfl (hb C.2.1 d) ho hq S) K
theorem g_if (C : Cx p s m meth c Z own nm code ml ret) {cd : ClassFile.Cond} {x : Int32} {o : Int} {q' : Nat} (d : decode code pc = .ok (.ifCond cd o, 3)) (ho : 0 ≤ (pc : Int) + o) (hq' : ((pc : Int) + o).toNat = q') (hq : pc + 3 = q)
    (K1 : ifCond.holds cd x = true → Go p l e R s m args below meth c Ph n0 h k n q' Ls st) (K2 : ifCond.holds cd x = false → Go p l e R s m args below meth c Ph n0 h k n q Ls st) : Go p l e R s m args below meth c Ph n0 h k n pc Ls (.int x :: st) := by
  cases hb' : ifCond.holds cd x
  · exact Go.pl (fun T t A S => XS.ifNo A C.1 rfl (hb C.2.1 d) rfl hb' (by subst hq; exact S)) (K2 hb')
  · exact Go.pl (fun T t A S => XS.ifYes A C.1 rfl rfl (hb C.2.1 d) rfl hb' ho hq' S) (K1 hb')
theorem g_icmp (C : Cx p s m meth c Z own nm code ml ret) {cd : ClassFile.Cond} {x y : Int32} {o : Int} {q' : Nat} (d : decode code pc = .ok (.if_icmp cd o, 3)) (ho : 0 ≤ (pc : Int) + o) (hq' : ((pc : Int) + o).toNat = q') (hq : pc + 3 = q)
    (K1 : if_icmp.holds cd x y = true → Go p l e R s m args below meth c Ph n0 h k n q' Ls st) (K2 : if_icmp.holds cd x y = false → Go p l e R s m args below meth c Ph n0 h k n q Ls st) : Go p l e R s m args below meth c Ph n0 h k n pc Ls (.int y :: .int x :: st) := by
  cases hb' : if_icmp.holds cd x y
  · exact Go.pl (fun T t A S => XS.icmpNo A C.1 rfl (hb C.2.1 d) rfl hb' (by subst hq; exact S)) (K2 hb')
  · exact Go.pl (fun T t A S => XS.icmpYes A C.1 rfl rfl (hb C.2.1 d) rfl hb' ho hq' S) (K1 hb')
theorem g_if_eq (C : Cx p s m meth c Z own nm code ml ret) {x : Int32} {o : Int} {q' : Nat} (d : decode code pc = .ok (.ifCond .eq o, 3)) (ho : 0 ≤ (pc : Int) + o) (hq' : ((pc : Int) + o).toNat = q') (hq : pc + 3 = q)
    (K1 : x = 0 → Go p l e R s m args below meth c Ph n0 h k n q' Ls st) (K2 : ¬ x = 0 → Go p l e R s m args below meth c Ph n0 h k n q Ls st) : Go p l e R s m args below meth c Ph n0 h k n pc Ls (.int x :: st) :=
  g_if C d ho hq' hq (fun hh => K1 (by simpa [ifCond.holds, Int32.not_lt, Int32.not_le] using hh)) (fun hh => K2 (by simpa [ifCond.holds, Int32.not_lt, Int32.not_le] using hh))
theorem g_icmp_eq (C : Cx p s m meth c Z own nm code ml ret) {x y : Int32} {o : Int} {q' : Nat} (d : decode code pc = .ok (.if_icmp .eq o, 3)) (ho : 0 ≤ (pc : Int) + o) (hq' : ((pc : Int) + o).toNat = q') (hq : pc + 3 = q)
    (K1 : x = y → Go p l e R s m args below meth c Ph n0 h k n q' Ls st) (K2 : ¬ x = y → Go p l e R s m args below meth c Ph n0 h k n q Ls st) : Go p l e R s m args below meth c Ph n0 h k n pc Ls (.int y :: .int x :: st) :=
  g_icmp C d ho hq' hq (fun hh => K1 (by simpa [if_icmp.holds, Int32.not_lt, Int32.not_le] using hh)) (fun hh => K2 (by simpa [if_icmp.holds, Int32.not_lt, Int32.not_le] using hh))
theorem g_if_ne (C : Cx p s m meth c Z own nm code ml ret) {x : Int32} {o : Int} {q' : Nat} (d : decode code pc = .ok (.ifCond .ne o, 3)) (ho : 0 ≤ (pc : Int) + o) (hq' : ((pc : Int) + o).toNat = q') (hq : pc + 3 = q)
    (K1 : ¬ x = 0 → Go p l e R s m args below meth c Ph n0 h k n q' Ls st) (K2 : x = 0 → Go p l e R s m args below meth c Ph n0 h k n q Ls st) : Go p l e R s m args below meth c Ph n0 h k n pc Ls (.int x :: st) :=
  g_if C d ho hq' hq (fun hh => K1 (by simpa [ifCond.holds, Int32.not_lt, Int32.not_le] using hh)) (fun hh => K2 (by simpa [ifCond.holds, Int32.not_lt, Int32.not_le] using hh))
theorem g_icmp_ne (C : Cx p s m meth c Z own nm code ml ret) {x y : Int32} {o : Int} {q' : Nat} (d : decode code pc = .ok (.if_icmp .ne o, 3)) (ho : 0 ≤ (pc : Int) + o) (hq' : ((pc : Int) + o).toNat = q') (hq : pc + 3 = q)
    (K1 : ¬ x = y → Go p l e R s m args below meth c Ph n0 h k n q' Ls st) (K2 : x = y → Go p l e R s m args below meth c Ph n0 h k n q Ls st) : Go p l e R s m args below meth c Ph n0 h k n pc Ls (.int y :: .int x :: st) :=
  g_icmp C d ho hq' hq (fun hh => K1 (by simpa [if_icmp.holds, Int32.not_lt, Int32.not_le] using hh)) (fun hh => K2 (by simpa [if_icmp.holds, Int32.not_lt, Int32.not_le] using hh))
theorem g_if_lt (C : Cx p s m meth c Z own nm code ml ret) {x : Int32} {o : Int} {q' : Nat} (d : decode code pc = .ok (.ifCond .lt o, 3)) (ho : 0 ≤ (pc : Int) + o) (hq' : ((pc : Int) + o).toNat = q') (hq : pc + 3 = q)
    (K1 : x < 0 → Go p l e R s m args below meth c Ph n0 h k n q' Ls st) (K2 : ¬ x < 0 → Go p l e R s m args below meth c Ph n0 h k n q Ls st) : Go p l e R s m args below meth c Ph n0 h k n pc Ls (.int x :: st) :=
  g_if C d ho hq' hq (fun hh => K1 (by simpa [ifCond.holds, Int32.not_lt, Int32.not_le] using hh)) (fun hh => K2 (by simpa [ifCond.holds, Int32.not_lt, Int32.not_le] using hh))
theorem g_icmp_lt (C : Cx p s m meth c Z own nm code ml ret) {x y : Int32} {o : Int} {q' : Nat} (d : decode code pc = .ok (.if_icmp .lt o, 3)) (ho : 0 ≤ (pc : Int) + o) (hq' : ((pc : Int) + o).toNat = q') (hq : pc + 3 = q)
    (K1 : x < y → Go p l e R s m args below meth c Ph n0 h k n q' Ls st) (K2 : ¬ x < y → Go p l e R s m args below meth c Ph n0 h k n q Ls st) : Go p l e R s m args below meth c Ph n0 h k n pc Ls (.int y :: .int x :: st) :=
  g_icmp C d ho hq' hq (fun hh => K1 (by simpa [if_icmp.holds, Int32.not_lt, Int32.not_le] using hh)) (fun hh => K2 (by simpa [if_icmp.holds, Int32.not_lt, Int32.not_le] using hh))
theorem g_if_ge (C : Cx p s m meth c Z own nm code ml ret) {x : Int32} {o : Int} {q' : Nat} (d : decode code pc = .ok (.ifCond .ge o, 3)) (ho : 0 ≤ (pc : Int) + o) (hq' : ((pc : Int) + o).toNat = q') (hq : pc + 3 = q)
    (K1 : ¬ x < 0 → Go p l e R s m args below meth c Ph n0 h k n q' Ls st) (K2 : x < 0 → Go p l e R s m args below meth c Ph n0 h k n q Ls st) : Go p l e R s m args below meth c Ph n0 h k n pc Ls (.int x :: st) :=
  g_if C d ho hq' hq (fun hh => K1 (by simpa [ifCond.holds, Int32.not_lt, Int32.not_le] using hh)) (fun hh => K2 (by simpa [ifCond.holds, Int32.not_lt, Int32.not_le] using hh))
theorem g_icmp_ge (C : Cx p s m meth c Z own nm code ml ret) {x y : Int32} {o : Int} {q' : Nat} (d : decode code pc = .ok (.if_icmp .ge o, 3)) (ho : 0 ≤ (pc : Int) + o) (hq' : ((pc : Int) + o).toNat = q') (hq : pc + 3 = q)
    (K1 : ¬ x < y → Go p l e R s m args below meth c Ph n0 h k n q' Ls st) (K2 : x < y → Go p l e R s m args below meth c Ph n0 h k n q Ls st) : Go p l e R s m args below meth c Ph n0 h k n pc Ls (.int y :: .int x :: st) :=
  g_icmp C d ho hq' hq (fun hh => K1 (by simpa [if_icmp.holds, Int32.not_lt, Int32.not_le] using hh)) (fun hh => K2 (by simpa [if_icmp.holds, Int32.not_lt, Int32.not_le] using hh))
theorem g_if_gt (C : Cx p s m meth c Z own nm code ml ret) {x : Int32} {o : Int} {q' : Nat} (d : decode code pc = .ok (.ifCond .gt o, 3)) (ho : 0 ≤ (pc : Int) + o) (hq' : ((pc : Int) + o).toNat = q') (hq : pc + 3 = q)
    (K1 : 0 < x → Go p l e R s m args below meth c Ph n0 h k n q' Ls st) (K2 : ¬ 0 < x → Go p l e R s m args below meth c Ph n0 h k n q Ls st) : Go p l e R s m args below meth c Ph n0 h k n pc Ls (.int x :: st) :=
  g_if C d ho hq' hq (fun hh => K1 (by simpa [ifCond.holds, Int32.not_lt, Int32.not_le] using hh)) (fun hh => K2 (by simpa [ifCond.holds, Int32.not_lt, Int32.not_le] using hh))
theorem g_icmp_gt (C : Cx p s m meth c Z own nm code ml ret) {x y : Int32} {o : Int} {q' : Nat} (d : decode code pc = .ok (.if_icmp .gt o, 3)) (ho : 0 ≤ (pc : Int) + o) (hq' : ((pc : Int) + o).toNat = q') (hq : pc + 3 = q)
    (K1 : y < x → Go p l e R s m args below meth c Ph n0 h k n q' Ls st) (K2 : ¬ y < x → Go p l e R s m args below meth c Ph n0 h k n q Ls st) : Go p l e R s m args below meth c Ph n0 h k n pc Ls (.int y :: .int x :: st) :=
  g_icmp C d ho hq' hq (fun hh => K1 (by simpa [if_icmp.holds, Int32.not_lt, Int32.not_le] using hh)) (fun hh => K2 (by simpa [if_icmp.holds, Int32.not_lt, Int32.not_le] using hh))
theorem g_if_le (C : Cx p s m meth c Z own nm code ml ret) {x : Int32} {o : Int} {q' : Nat} (d : decode code pc = .ok (.ifCond .le o, 3)) (ho : 0 ≤ (pc : Int) + o) (hq' : ((pc : Int) + o).toNat = q') (hq : pc + 3 = q)
    (K1 : ¬ 0 < x → Go p l e R s m args below meth c Ph n0 h k n q' Ls st) (K2 : 0 < x → Go p l e R s m args below meth c Ph n0 h k n q Ls st) : Go p l e R s m args below meth c Ph n0 h k n pc Ls (.int x :: st) :=
  g_if C d ho hq' hq (fun hh => K1 (by simpa [ifCond.holds, Int32.not_lt, Int32.not_le] using hh)) (fun hh => K2 (by simpa [ifCond.holds, Int32.not_lt, Int32.not_le] using hh))
theorem g_icmp_le (C : Cx p s m meth c Z own nm code ml ret) {x y : Int32} {o : Int} {q' : Nat} (d : decode code pc = .ok (.if_icmp .le o, 3)) (ho : 0 ≤ (pc : Int) + o) (hq' : ((pc : Int) + o).toNat = q') (hq : pc + 3 = q)
    (K1 : ¬ y < x → Go p l e R s m args below meth c Ph n0 h k n q' Ls st) (K2 : y < x → Go p l e R s m args below meth c Ph n0 h k n q Ls st) : Go p l e R s m args below meth c Ph n0 h k n pc Ls (.int y :: .int x :: st) :=
  g_icmp C d ho hq' hq (fun hh => K1 (by simpa [if_icmp.holds, Int32.not_lt, Int32.not_le] using hh)) (fun hh => K2 (by simpa [if_icmp.holds, Int32.not_lt, Int32.not_le] using hh))
theorem g_ifnullY (C : Cx p s m meth c Z own nm code ml ret) {a : Addr} {o : Int} (d : decode code pc = .ok (.ifnull o, 3)) (ho : 0 ≤ (pc : Int) + o) (hq : ((pc : Int) + o).toNat = q) (K : Go p l e R s m args below meth c Ph n0 h k n q Ls st) : Go p l e R s m args below meth c Ph n0 h k n pc Ls (.null :: st) :=
  Go.pl (fun T t A S => XS.ifnullYes A C.1 rfl rfl (hb C.2.1 d) rfl ho hq S) K
theorem g_ifnullN (C : Cx p s m meth c Z own nm code ml ret) {a : Addr} {o : Int} (d : decode code pc = .ok (.ifnull o, 3)) (hq : pc + 3 = q) (K : Go p l e R s m args below meth c Ph n0 h k n q Ls st) : Go p l e R s m args below meth c Ph n0 h k n pc Ls (.ref a :: st) :=
  Go.pl (fun T t A S => XS.ifnullNo A C.1 rfl (hb C.2.1 d) rfl (by subst hq; exact S)) K
theorem g_ifnonnullY (C : Cx p s m meth c Z own nm code ml ret) {a : Addr} {o : Int} (d : decode code pc = .ok (.ifnonnull o, 3)) (ho : 0 ≤ (pc : Int) + o) (hq : ((pc : Int) + o).toNat = q) (K : Go p l e R s m args below meth c Ph n0 h k n q Ls st) : Go p l e R s m args below meth c Ph n0 h k n pc Ls (.ref a :: st) :=
  Go.pl (fun T t A S => XT.ifnonnullYes A C.1 rfl rfl (hb C.2.1 d) rfl ho hq S) K
theorem g_ifnonnullN (C : Cx p s m meth c Z own nm code ml ret) {a : Addr} {o : Int} (d : decode code pc = .ok (.ifnonnull o, 3)) (hq : pc + 3 = q) (K : Go p l e R s m args below meth c Ph n0 h k n q Ls st) : Go p l e R s m args below meth c Ph n0 h k n pc Ls (.null :: st) :=
  Go.pl (fun T t A S => XT.ifnonnullNo A C.1 rfl (hb C.2.1 d) rfl (by subst hq; exact S)) K
theorem g_acmp_eq (C : Cx p s m meth c Z own nm code ml ret) {x y : Value} {o : Int} {q' : Nat} (d : decode code pc = .ok (.if_acmp .eq o, 3)) (hx' : x.isRef = true) (hy' : y.isRef = true) (ho : 0 ≤ (pc : Int) + o) (hq' : ((pc : Int) + o).toNat = q') (hq : pc + 3 = q)
    (K1 : x = y → Go p l e R s m args below meth c Ph n0 h k n q' Ls st) (K2 : ¬ x = y → Go p l e R s m args below meth c Ph n0 h k n q Ls st) : Go p l e R s m args below meth c Ph n0 h k n pc Ls (y :: x :: st) := by
  by_cases hh : x = y
  · exact Go.pl (fun T t A S => XT.acmpYes A C.1 rfl rfl (hb C.2.1 d) rfl hx' hy' (by simpa [XT.acmp] using hh) ho hq' S) (K1 hh)
  · exact Go.pl (fun T t A S => XT.acmpNo A C.1 rfl (hb C.2.1 d) rfl hx' hy' (by simpa [XT.acmp] using hh) (by subst hq; exact S)) (K2 (by simpa using hh))
theorem g_acmp_ne (C : Cx p s m meth c Z own nm code ml ret) {x y : Value} {o : Int} {q' : Nat} (d : decode code pc = .ok (.if_acmp .ne o, 3)) (hx' : x.isRef = true) (hy' : y.isRef = true) (ho : 0 ≤ (pc : Int) + o) (hq' : ((pc : Int) + o).toNat = q') (hq : pc + 3 = q)
    (K1 : ¬ x = y → Go p l e R s m args below meth c Ph n0 h k n q' Ls st) (K2 : x = y → Go p l e R s m args below meth c Ph n0 h k n q Ls st) : Go p l e R s m args below meth c Ph n0 h k n pc Ls (y :: x :: st) := by
  by_cases hh : ¬ x = y
  · exact Go.pl (fun T t A S => XT.acmpYes A C.1 rfl rfl (hb C.2.1 d) rfl hx' hy' (by simpa [XT.acmp] using hh) ho hq' S) (K1 hh)
  · exact Go.pl (fun T t A S => XT.acmpNo A C.1 rfl (hb C.2.1 d) rfl hx' hy' (by simpa [XT.acmp] using hh) (by subst hq; exact S)) (K2 (by simpa using hh))
theorem g_getf (C : Cx p s m meth c Z own nm code ml ret) {R0 O f d' host : String} {index : Nat} {a : Addr} {v : Value} (d : decode code pc = .ok (.getfield index, 3)) (w : (Cond.fieldLink own index R0 f d').before a0 Z = true ∨ (Cond.fieldLinkNest own index R0 f d' host).before a0 Z = true) (via : Via Z R0 O f d') (F : Fld Z h a O f d' v) (hq : pc + 3 = q)
    (K : Go p l e R s m args below meth c Ph n0 h k n q Ls (v :: st)) : Go p l e R s m args below meth c Ph n0 h k n pc Ls (.ref a :: st) := fun T locs X N eT => by
  obtain ⟨T', X', e', stp⟩ := getF X C.1 C.2.2.2.2.1 C.2.2.2.1 w via eT F (g := mkF m pc Ls (.ref a :: st)) rfl rfl (hb C.2.1 d)
  obtain ⟨s₂, v, S, r⟩ := K T' locs X' N e'
  exact ⟨s₂, v, stp _ (by subst hq; exact S), r⟩
theorem g_gets (C : Cx p s m meth c Z own nm code ml ret) {R0 O f d' host : String} {index : Nat} {v : Value} (d : decode code pc = .ok (.getstatic index, 3)) (w : (Cond.fieldLink own index R0 f d').before a0 Z = true ∨ (Cond.fieldLinkNest own index R0 f d' host).before a0 Z = true) (via : Via Z R0 O f d') (F : Sta Z h O f d' v) (hq : pc + 3 = q)
    (K : Go p l e R s m args below meth c Ph n0 h k n q Ls (v :: st)) : Go p l e R s m args below meth c Ph n0 h k n pc Ls st := fun T locs X N eT => by
  obtain ⟨T', X', e', stp⟩ := getS2 X C.1 C.2.2.2.2.1 C.2.2.2.1 w via eT F (g := mkF m pc Ls st) rfl (hb C.2.1 d)
  obtain ⟨s₂, v, S, r⟩ := K T' locs X' N e'
  exact ⟨s₂, v, stp _ (by subst hq; exact S), r⟩
theorem g_putf (C : Cx p s m meth c Z own nm code ml ret) {R0 O f d' host Cl : String} {index kk : Nat} {a : Addr} {v old : Value} {ty : FieldType} (d : decode code pc = .ok (.putfield index, 3)) (w : (Cond.fieldLink own index R0 f d').before a0 Z = true ∨ (Cond.fieldLinkNest own index R0 f d' host).before a0 Z = true) (via : Via Z R0 O f d') (F : Fld Z h a O f d' old) (E : Exa Z h a Cl)
    (L : (Cond.lays Cl O f d').before a0 Z = true ∨ ((Cond.laysFinal Cl O f d').before a0 Z = true ∧ own = O ∧ nm = "<init>")) (wi : (Cond.instantiable Cl kk).before a0 Z = true) (hty : parseFieldDescriptor d' = some ty) (hn : narrow ty v = v) (hf : fits ty v = true) (ha : n0 ≤ a) (hq : pc + 3 = q)
    (K : ∀ h', Wr h h' a (Jvm.RoadKit.slotOf Z O f d') v → Go p l e R s m args below meth c Ph n0 h' k n q Ls st) : Go p l e R s m args below meth c Ph n0 h k n pc Ls (v :: .ref a :: st) := fun T locs X N eT => by
  obtain ⟨T', h', X', e', W, stp⟩ := putF X C.1 C.2.2.2.2.1 C.2.2.2.1 w via eT F E (L.imp id fun q => ⟨q.1, q.2.1, C.2.2.2.2.2.1.trans q.2.2⟩) wi hty hn hf (g := mkF m pc Ls (v :: .ref a :: st)) rfl rfl (hb C.2.1 d)
  obtain ⟨s₂, v, S, r⟩ := K h' W T' _ X' (Fr.snoc X' N ha) e'
  exact ⟨s₂, v, stp _ (by subst hq; exact S), r⟩
theorem g_new (C : Cx p s m meth c Z own nm code ml ret) {Cl : String} {index nn : Nat} (d : decode code pc = .ok (.new index, 3)) (w : (Cond.classLink own index Cl).before a0 Z = true) (wi : (Cond.instantiable Cl nn).before a0 Z = true) (wz : (Cond.initialized Cl).before a0 Z = true) (hc : k + 1 ≤ R.cells) (hl : n + nn ≤ R.slots) (hq : pc + 3 = q)
    (K : ∀ (a : Addr) (h' : Heap), a = h.size → Ext h h' → Exa Z h' a Cl → (∀ {O f d' : String} {ty : FieldType}, Laid Z a0 Cl O f d' → parseFieldDescriptor d' = some ty → Fld Z h' a O f d' (defaultValue ty)) → Go p l e R s m args below meth c Ph n0 h' (k + 1) (n + nn) q Ls (.ref a :: st)) : Go p l e R s m args below meth c Ph n0 h k n pc Ls st := fun T locs X N eT => by
  obtain ⟨T', h', X', e', E, A, D, -, stp⟩ := newO X C.1 C.2.2.2.2.1 C.2.2.2.1 w wi wz eT (g := mkF m pc Ls st) rfl (hb C.2.1 d) hc hl
  obtain ⟨s₂, v, S, r⟩ := K _ h' rfl E A D T' locs X' N e'
  exact ⟨s₂, v, stp _ (by subst hq; exact S), r⟩
theorem g_newarray (C : Cx p s m meth c Z own nm code ml ret) {aty : ArrayType} {N' : Int32} {cap : Nat} (d : decode code pc = .ok (.newarray aty, 2)) (w : (Cond.arrayClass (newarray.typeOf aty)).before a0 Z = true) (hn : ¬ N' < 0) (hcap : N'.toNatClampNeg ≤ cap) (hbg : cap * 8 ≤ 536870912) (hc : k + 1 ≤ R.cells) (hl : n + cap ≤ R.slots) (hq : pc + 2 = q)
    (K : ∀ (a : Addr) (h' : Heap) (cA : ClassId), a = h.size → Ext h h' → Arr Z h' a (newA cA (newarray.typeOf aty) N') (newarray.typeOf aty) → Go p l e R s m args below meth c Ph n0 h' (k + 1) (n + cap) q Ls (.ref a :: st)) : Go p l e R s m args below meth c Ph n0 h k n pc Ls (.int N' :: st) := fun T locs X N eT => by
  obtain ⟨T', h', cA, X', e', E, A, stp⟩ := newP X C.1 C.2.2.2.2.1 w eT (g := mkF m pc Ls (.int N' :: st)) rfl (hb C.2.1 d) rfl hn hcap hbg hc hl
  obtain ⟨s₂, v, S, r⟩ := K _ h' cA rfl E A T' locs X' N e'
  exact ⟨s₂, v, stp _ (by subst hq; exact S), r⟩
theorem g_anewarray (C : Cx p s m meth c Z own nm code ml ret) {Cl : String} {index : Nat} {N' : Int32} {cap : Nat} (d : decode code pc = .ok (.anewarray index, 3)) (w1 : (Cond.classLink own index Cl).before a0 Z = true) (w2 : (Cond.arrayOver (.object Cl)).before a0 Z = true) (hn : ¬ N' < 0) (hcap : N'.toNatClampNeg ≤ cap) (hbg : cap * 8 ≤ 536870912) (hc : k + 1 ≤ R.cells) (hl : n + cap ≤ R.slots) (hq : pc + 3 = q)
    (K : ∀ (a : Addr) (h' : Heap) (cA : ClassId), a = h.size → Ext h h' → Arr Z h' a (newA cA (.object Cl) N') (.object Cl) → Ovr Z cA Cl → Go p l e R s m args below meth c Ph n0 h' (k + 1) (n + cap) q Ls (.ref a :: st)) : Go p l e R s m args below meth c Ph n0 h k n pc Ls (.int N' :: st) := fun T locs X N eT => by
  obtain ⟨T', h', cA, X', e', E, A, O, stp⟩ := newR X C.1 C.2.2.2.2.1 C.2.2.2.1 w1 w2 eT (g := mkF m pc Ls (.int N' :: st)) rfl (hb C.2.1 d) rfl hn hcap hbg hc hl
  obtain ⟨s₂, v, S, r⟩ := K _ h' cA rfl E A O T' locs X' N e'
  exact ⟨s₂, v, stp _ (by subst hq; exact S), r⟩
theorem g_initO (C : Cx p s m meth c Z own nm code ml ret) {idx : Nat} {a : Addr} {W : Nat} (d : decode code pc = .ok (.invokespecial idx, 3)) (w1 : (Cond.methodLink own idx Lib.objectInit).before a0 Z = true) (w2 : (Cond.instanceMethod Lib.objectInit).before a0 Z = true) (w3 : (Cond.code Lib.objectInit ⟨#[0xb1]⟩ 1 none).before a0 Z = true)
    (hsz : Ls.size = ml) (hf : 1 ≤ R.frames) (hW : (st.map fun v => v.category).sum = W) (hl : W + 12 ≤ R.locals) (hq : pc + 3 = q) (K : Go p l e R s m args below meth c Ph n0 h k n q Ls st) : Go p l e R s m args below meth c Ph n0 h k n pc Ls (.ref a :: st) := fun T locs X N eT => by
  obtain ⟨T', X', e', stp⟩ := initO X C.1 C.2.2.2.2.1 C.2.2.2.1 w1 w2 w3 eT (g := mkF m pc Ls (.ref a :: st)) rfl (hsz.trans C.2.2.1.symm) rfl (hb C.2.1 d) hf (W := W) (by show 2 * 0 + _ ≤ _; rw [hW]; omega) hl
  obtain ⟨s₂, v, S, r⟩ := K T' locs X' N e'
  exact ⟨s₂, v, stp _ (by subst hq; exact S), r⟩
theorem g_castY (C : Cx p s m meth c Z own nm code ml ret) {K' : String} {index : Nat} {a : Addr} (d : decode code pc = .ok (.checkcast index, 3)) (w : (Cond.classLink own index K').before a0 Z = true) (F : Ins Z h a K' true) (hq : pc + 3 = q) (K : Go p l e R s m args below meth c Ph n0 h k n q Ls (.ref a :: st)) : Go p l e R s m args below meth c Ph n0 h k n pc Ls (.ref a :: st) := fun T locs X N eT => by
  obtain ⟨T', X', e', stp⟩ := castY X C.1 C.2.2.2.2.1 C.2.2.2.1 w eT F (g := mkF m pc Ls (.ref a :: st)) rfl rfl (hb C.2.1 d)
  obtain ⟨s₂, v, S, r⟩ := K T' locs X' N e'
  exact ⟨s₂, v, stp _ (by subst hq; exact S), r⟩
theorem g_instY (C : Cx p s m meth c Z own nm code ml ret) {K' : String} {index : Nat} {a : Addr} (d : decode code pc = .ok (.instanceof index, 3)) (w : (Cond.classLink own index K').before a0 Z = true) (F : Ins Z h a K' true) (hq : pc + 3 = q) (K : Go p l e R s m args below meth c Ph n0 h k n q Ls (.int 1 :: st)) : Go p l e R s m args below meth c Ph n0 h k n pc Ls (.ref a :: st) := fun T locs X N eT => by
  obtain ⟨T', X', e', stp⟩ := instY X C.1 C.2.2.2.2.1 C.2.2.2.1 w eT F (g := mkF m pc Ls (.ref a :: st)) rfl rfl (hb C.2.1 d)
  obtain ⟨s₂, v, S, r⟩ := K T' locs X' N e'
  exact ⟨s₂, v, stp _ (by subst hq; exact S), r⟩
theorem g_ldcInt (C : Cx p s m meth c Z own nm code ml ret) {index : Nat} {v : Int32} (d : decode code pc = .ok (.ldc index, 2)) (w : (Cond.constant own index v).before a0 Z = true) (hq : pc + 2 = q) (K : Go p l e R s m args below meth c Ph n0 h k n q Ls (.int v :: st)) : Go p l e R s m args below meth c Ph n0 h k n pc Ls st := fun T locs X N eT => by
  obtain ⟨s₂, v', S, r⟩ := K T locs X N eT
  exact ⟨s₂, v', X.ldcInt C.1 C.2.2.2.1 (mvT C.2.2.2.2.1 w) (g := mkF m pc Ls st) rfl (hb C.2.1 d) _ (by subst hq; exact S), r⟩
theorem g_ldc2Long (C : Cx p s m meth c Z own nm code ml ret) {index : Nat} {v : Int64} (d : decode code pc = .ok (.ldc2_w index, 3)) (w : (Cond.constantLong own index v).before a0 Z = true) (hq : pc + 3 = q) (K : Go p l e R s m args below meth c Ph n0 h k n q Ls (.long v :: st)) : Go p l e R s m args below meth c Ph n0 h k n pc Ls st := fun T locs X N eT => by
  obtain ⟨s₂, v', S, r⟩ := K T locs X N eT
  exact ⟨s₂, v', X.ldc2Long C.1 C.2.2.2.1 (mvT C.2.2.2.2.1 w) (g := mkF m pc Ls st) rfl (hb C.2.1 d) _ (by subst hq; exact S), r⟩
/-- an array of N places; place j holds f j -/
def Av (Z : State) (h : Heap) (a : Addr) (ty : FieldType) (N : Nat) (f : Nat → Value) : Prop := ∃ c : Cell, Arr Z h a c ty ∧ c.slots.size = N ∧ N < 2 ^ 31 ∧ ∀ j, j < N → c.slots[j]? = some (f j)
theorem Av.ext {h' : Heap} {a : Addr} {ty : FieldType} {N : Nat} {f : Nat → Value} (A : Av Z h a ty N f) (E : Ext h h') : Av Z h' a ty N f := by obtain ⟨c, A, r⟩ := A; exact ⟨c, A.ext E, r⟩
theorem Av.lt {a : Addr} {ty : FieldType} {N : Nat} {f : Nat → Value} (A : Av Z h a ty N f) : a < h.size := by obtain ⟨c, A, r⟩ := A; exact A.lt
theorem Av.other {h' : Heap} {a b : Addr} {ty : FieldType} {N sl : Nat} {v : Value} {f : Nat → Value} (A : Av Z h b ty N f) (W : Wr h h' a sl v) (ne : b ≠ a) : Av Z h' b ty N f := by obtain ⟨c, A, r⟩ := A; exact ⟨c, A.other W ne, r⟩
theorem Av.keep {h' : Heap} {a : Addr} {ty : FieldType} {N : Nat} {f : Nat → Value} {ws : List Addr} (A : Av Z h a ty N f) (K : Keep h h' ws) (ne : a ∉ ws) : Av Z h' a ty N f := by obtain ⟨c, A, r⟩ := A; exact ⟨c, ⟨K.2.1 a c A.1 ne, A.2⟩, r⟩
theorem Av.congr {a : Addr} {ty : FieldType} {N : Nat} {f g : Nat → Value} (A : Av Z h a ty N f) (hfg : ∀ j, j < N → f j = g j) : Av Z h a ty N g := by obtain ⟨c, A, r1, r2, r3⟩ := A; exact ⟨c, A, r1, r2, fun j hj => by rw [r3 j hj, hfg j hj]⟩
theorem Av.set {h' : Heap} {a : Addr} {ty : FieldType} {N i : Nat} {v : Value} {f : Nat → Value} (A : Av Z h a ty N f) (W : Wr h h' a i v) (hi : i < N) : Av Z h' a ty N (fun j => if j = i then v else f j) := by
  obtain ⟨c, A, r1, r2, r3⟩ := A
  refine ⟨c.setSlot i v, A.same W, by rw [sz_set]; exact r1, r2, fun j hj => ?_⟩
  by_cases e : j = i
  · subst e; simp [Cell.setSlot, r1, hi]
  · show (c.setSlot i v).slots[j]? = some (if j = i then v else f j)
    rw [if_neg e, ← r3 j hj]; simp [Cell.setSlot, Array.getElem?_setIfInBounds_ne (Ne.symm e)]
theorem Av.new {a : Addr} {ty : FieldType} {cA : ClassId} {N' : Int32} (A : Arr Z h a (newA cA ty N') ty) (hn : ¬ N' < 0) : Av Z h a ty N'.toNatClampNeg (fun _ => defaultValue ty) :=
  ⟨_, A, sz_new _ _ _, (back32 hn).2, fun j hj => by simp [newA, hj]⟩
theorem Av.ne_exa {a b : Addr} {ty : FieldType} {N kk : Nat} {f : Nat → Value} {Cl : String} (A : Av Z h a ty N f) (E : Exa Z h b Cl) (wi : (Cond.instantiable Cl kk).before a0 Z = true) : a ≠ b := by obtain ⟨c, A, r⟩ := A; exact Ne.symm (ne_arr E wi A)
theorem i32_idx {i N : Nat} (hi : i < N) (hN : N < 2 ^ 31) {c : Cell} (hc : c.slots.size = N) : (¬ (Int32.ofNat i < 0 ∨ c.slots.size ≤ (Int32.ofNat i).toNatClampNeg)) ∧ (Int32.ofNat i).toNatClampNeg = i := by
  have e : (Int32.ofNat i).toNatClampNeg = i := Int32.toNatClampNeg_ofNat_of_lt (by omega)
  refine ⟨?_, e⟩
  rw [e, hc]
  rintro (q | q)
  · have := Int32.lt_iff_toInt_lt.mp q
    rw [Int32.toInt_ofNat_of_lt (by omega)] at this
    simp at this
    omega
  · omega
theorem g_iaload (C : Cx p s m meth c Z own nm code ml ret) {a : Addr} {N i : Nat} {f : Nat → Value} {j : Int32} {v : Value} (d : decode code pc = .ok (.iaload, 1)) (A : Av Z h a .int N f) (hi : i < N) (hj : j = Int32.ofNat i) (hv : f i = v) (hq : pc + 1 = q) (K : Go p l e R s m args below meth c Ph n0 h k n q Ls (v :: st)) : Go p l e R s m args below meth c Ph n0 h k n pc Ls (.int j :: .ref a :: st) := fun T locs X N' eT => by
  obtain ⟨c', A, r1, r2, r3⟩ := A
  obtain ⟨g1, g2⟩ := i32_idx hi r2 r1
  obtain ⟨s₂, v', S, r⟩ := K T locs X N' eT
  subst hj hv
  exact ⟨s₂, v', X.iaload C.1 (by rw [eT]; exact A.1) (State.isArrayOf_alike C.2.2.2.2.1.alike A.2.1) A.2.2 g1 (by rw [g2]; exact r3 i hi) (g := mkF m pc Ls _) rfl rfl (hb C.2.1 d) _ (by subst hq; exact S), r⟩
theorem g_laload (C : Cx p s m meth c Z own nm code ml ret) {a : Addr} {N i : Nat} {f : Nat → Value} {j : Int32} {v : Value} (d : decode code pc = .ok (.laload, 1)) (A : Av Z h a .long N f) (hi : i < N) (hj : j = Int32.ofNat i) (hv : f i = v) (hq : pc + 1 = q) (K : Go p l e R s m args below meth c Ph n0 h k n q Ls (v :: st)) : Go p l e R s m args below meth c Ph n0 h k n pc Ls (.int j :: .ref a :: st) := fun T locs X N' eT => by
  obtain ⟨c', A, r1, r2, r3⟩ := A
  obtain ⟨g1, g2⟩ := i32_idx hi r2 r1
  obtain ⟨s₂, v', S, r⟩ := K T locs X N' eT
  subst hj hv
  exact ⟨s₂, v', X.laload C.1 (by rw [eT]; exact A.1) (State.isArrayOf_alike C.2.2.2.2.1.alike A.2.1) A.2.2 g1 (by rw [g2]; exact r3 i hi) (g := mkF m pc Ls _) rfl rfl (hb C.2.1 d) _ (by subst hq; exact S), r⟩
theorem g_caload (C : Cx p s m meth c Z own nm code ml ret) {a : Addr} {N i : Nat} {f : Nat → Value} {j : Int32} {v : Value} (d : decode code pc = .ok (.caload, 1)) (A : Av Z h a .char N f) (hi : i < N) (hj : j = Int32.ofNat i) (hv : f i = v) (hq : pc + 1 = q) (K : Go p l e R s m args below meth c Ph n0 h k n q Ls (v :: st)) : Go p l e R s m args below meth c Ph n0 h k n pc Ls (.int j :: .ref a :: st) := fun T locs X N' eT => by
  obtain ⟨c', A, r1, r2, r3⟩ := A
  obtain ⟨g1, g2⟩ := i32_idx hi r2 r1
  obtain ⟨s₂, v', S, r⟩ := K T locs X N' eT
  subst hj hv
  exact ⟨s₂, v', X.caload C.1 (by rw [eT]; exact A.1) (State.isArrayOf_alike C.2.2.2.2.1.alike A.2.1) A.2.2 g1 (by rw [g2]; exact r3 i hi) (g := mkF m pc Ls _) rfl rfl (hb C.2.1 d) _ (by subst hq; exact S), r⟩
theorem g_baload (C : Cx p s m meth c Z own nm code ml ret) {a : Addr} {N i : Nat} {f : Nat → Value} {j : Int32} {v : Value} (d : decode code pc = .ok (.baload, 1)) (A : Av Z h a .byte N f) (hi : i < N) (hj : j = Int32.ofNat i) (hv : f i = v) (hq : pc + 1 = q) (K : Go p l e R s m args below meth c Ph n0 h k n q Ls (v :: st)) : Go p l e R s m args below meth c Ph n0 h k n pc Ls (.int j :: .ref a :: st) := fun T locs X N' eT => by
  obtain ⟨c', A, r1, r2, r3⟩ := A
  obtain ⟨g1, g2⟩ := i32_idx hi r2 r1
  obtain ⟨s₂, v', S, r⟩ := K T locs X N' eT
  subst hj hv
  exact ⟨s₂, v', X.baloadBytes C.1 (by rw [eT]; exact A.1) (State.isArrayOf_alike C.2.2.2.2.1.alike A.2.1) A.2.2 g1 (by rw [g2]; exact r3 i hi) (g := mkF m pc Ls _) rfl rfl (hb C.2.1 d) _ (by subst hq; exact S), r⟩
theorem g_aaload (C : Cx p s m meth c Z own nm code ml ret) {a : Addr} {N i : Nat} {f : Nat → Value} {j : Int32} {v : Value} {ty : FieldType} (d : decode code pc = .ok (.aaload, 1)) (A : Av Z h a ty N f) (hty : ty.isReference = true) (hi : i < N) (hj : j = Int32.ofNat i) (hv : f i = v) (hq : pc + 1 = q) (K : Go p l e R s m args below meth c Ph n0 h k n q Ls (v :: st)) : Go p l e R s m args below meth c Ph n0 h k n pc Ls (.int j :: .ref a :: st) := fun T locs X N' eT => by
  obtain ⟨c', A, r1, r2, r3⟩ := A
  obtain ⟨g1, g2⟩ := i32_idx hi r2 r1
  obtain ⟨s₂, v', S, r⟩ := K T locs X N' eT
  subst hj hv
  exact ⟨s₂, v', X.aaload C.1 (by rw [eT]; exact A.1) (State.isArrayOf_alike C.2.2.2.2.1.alike A.2.1) hty A.2.2 g1 (by rw [g2]; exact r3 i hi) (g := mkF m pc Ls _) rfl rfl (hb C.2.1 d) _ (by subst hq; exact S), r⟩
theorem g_alen (C : Cx p s m meth c Z own nm code ml ret) {a : Addr} {N : Nat} {f : Nat → Value} {ty : FieldType} {z : Int32} (d : decode code pc = .ok (.arraylength, 1)) (A : Av Z h a ty N f) (hz : Int32.ofNat N = z) (hq : pc + 1 = q) (K : Go p l e R s m args below meth c Ph n0 h k n q Ls (.int z :: st)) : Go p l e R s m args below meth c Ph n0 h k n pc Ls (.ref a :: st) := fun T locs X N' eT => by
  obtain ⟨c', A, r1, r2, r3⟩ := A
  obtain ⟨s₂, v', S, r⟩ := K T locs X N' eT
  refine ⟨s₂, v', X.arraylength C.1 (by rw [eT]; exact A.1) (State.isArrayOf_alike C.2.2.2.2.1.alike A.2.1) (g := mkF m pc Ls _) rfl rfl (hb C.2.1 d) _ ?_, r⟩
  subst hq hz
  rw [r1]
  exact S
theorem g_iastore (C : Cx p s m meth c Z own nm code ml ret) {a : Addr} {N i : Nat} {f : Nat → Value} {j : Int32} {x : Int32} (d : decode code pc = .ok (.iastore, 1)) (A : Av Z h a .int N f) (hi : i < N) (hj : j = Int32.ofNat i) (ha : n0 ≤ a) (hq : pc + 1 = q)
    (K : ∀ h', Wr h h' a i (.int x) → Av Z h' a .int N (fun j => if j = i then (.int x) else f j) → Go p l e R s m args below meth c Ph n0 h' k n q Ls st) : Go p l e R s m args below meth c Ph n0 h k n pc Ls (.int x :: .int j :: .ref a :: st) := fun T locs X N' eT => by
  have A' := A
  obtain ⟨c', A, r1, r2, r3⟩ := A
  obtain ⟨g1, g2⟩ := i32_idx hi r2 r1
  subst hj
  obtain ⟨T', h', X', e', W, stp⟩ := stI X C.1 C.2.2.2.2.1 eT A g1 (g := mkF m pc Ls (.int x :: .int (Int32.ofNat i) :: .ref a :: st)) rfl rfl (hb C.2.1 d)
  have N2 := Fr.snoc X' N' ha
  rw [g2] at W
  obtain ⟨s₂, v, S, r⟩ := K h' W (A'.set W hi) T' _ X' N2 e'
  exact ⟨s₂, v, stp _ (by subst hq; exact S), r⟩
theorem g_lastore (C : Cx p s m meth c Z own nm code ml ret) {a : Addr} {N i : Nat} {f : Nat → Value} {j : Int32} {x : Int64} (d : decode code pc = .ok (.lastore, 1)) (A : Av Z h a .long N f) (hi : i < N) (hj : j = Int32.ofNat i) (ha : n0 ≤ a) (hq : pc + 1 = q)
    (K : ∀ h', Wr h h' a i (.long x) → Av Z h' a .long N (fun j => if j = i then (.long x) else f j) → Go p l e R s m args below meth c Ph n0 h' k n q Ls st) : Go p l e R s m args below meth c Ph n0 h k n pc Ls (.long x :: .int j :: .ref a :: st) := fun T locs X N' eT => by
  have A' := A
  obtain ⟨c', A, r1, r2, r3⟩ := A
  obtain ⟨g1, g2⟩ := i32_idx hi r2 r1
  subst hj
  obtain ⟨T', h', X', e', W, stp⟩ := stJ X C.1 C.2.2.2.2.1 eT A g1 (g := mkF m pc Ls (.long x :: .int (Int32.ofNat i) :: .ref a :: st)) rfl rfl (hb C.2.1 d)
  have N2 := Fr.snoc X' N' ha
  rw [g2] at W
  obtain ⟨s₂, v, S, r⟩ := K h' W (A'.set W hi) T' _ X' N2 e'
  exact ⟨s₂, v, stp _ (by subst hq; exact S), r⟩
theorem g_castore (C : Cx p s m meth c Z own nm code ml ret) {a : Addr} {N i : Nat} {f : Nat → Value} {j : Int32} {x : Int32} (d : decode code pc = .ok (.castore, 1)) (A : Av Z h a .char N f) (hi : i < N) (hj : j = Int32.ofNat i) (ha : n0 ≤ a) (hq : pc + 1 = q)
    (K : ∀ h', Wr h h' a i (.int (nar .char x)) → Av Z h' a .char N (fun j => if j = i then (.int (nar .char x)) else f j) → Go p l e R s m args below meth c Ph n0 h' k n q Ls st) : Go p l e R s m args below meth c Ph n0 h k n pc Ls (.int x :: .int j :: .ref a :: st) := fun T locs X N' eT => by
  have A' := A
  obtain ⟨c', A, r1, r2, r3⟩ := A
  obtain ⟨g1, g2⟩ := i32_idx hi r2 r1
  subst hj
  obtain ⟨T', h', X', e', W, stp⟩ := stC X C.1 C.2.2.2.2.1 eT A g1 (g := mkF m pc Ls (.int x :: .int (Int32.ofNat i) :: .ref a :: st)) rfl rfl (hb C.2.1 d)
  have N2 := Fr.snoc X' N' ha
  rw [g2] at W
  obtain ⟨s₂, v, S, r⟩ := K h' W (A'.set W hi) T' _ X' N2 e'
  exact ⟨s₂, v, stp _ (by subst hq; exact S), r⟩
theorem g_bastore (C : Cx p s m meth c Z own nm code ml ret) {a : Addr} {N i : Nat} {f : Nat → Value} {j : Int32} {x : Int32} (d : decode code pc = .ok (.bastore, 1)) (A : Av Z h a .byte N f) (hi : i < N) (hj : j = Int32.ofNat i) (ha : n0 ≤ a) (hq : pc + 1 = q)
    (K : ∀ h', Wr h h' a i (.int (nar .byte x)) → Av Z h' a .byte N (fun j => if j = i then (.int (nar .byte x)) else f j) → Go p l e R s m args below meth c Ph n0 h' k n q Ls st) : Go p l e R s m args below meth c Ph n0 h k n pc Ls (.int x :: .int j :: .ref a :: st) := fun T locs X N' eT => by
  have A' := A
  obtain ⟨c', A, r1, r2, r3⟩ := A
  obtain ⟨g1, g2⟩ := i32_idx hi r2 r1
  subst hj
  obtain ⟨T', h', X', e', W, stp⟩ := stB X C.1 C.2.2.2.2.1 eT A g1 (g := mkF m pc Ls (.int x :: .int (Int32.ofNat i) :: .ref a :: st)) rfl rfl (hb C.2.1 d)
  have N2 := Fr.snoc X' N' ha
  rw [g2] at W
  obtain ⟨s₂, v, S, r⟩ := K h' W (A'.set W hi) T' _ X' N2 e'
  exact ⟨s₂, v, stp _ (by subst hq; exact S), r⟩
theorem g_aastore (C : Cx p s m meth c Z own nm code ml ret) {a : Addr} {N i : Nat} {f : Nat → Value} {j : Int32} {x : Value} {ty : FieldType} (d : decode code pc = .ok (.aastore, 1)) (A : Av Z h a ty N f) (hi : i < N) (hj : j = Int32.ofNat i) (hty : ty.isReference = true) (F : Sto Z h a x) (ha : n0 ≤ a) (hq : pc + 1 = q)
    (K : ∀ h', Wr h h' a i x → Av Z h' a ty N (fun j => if j = i then x else f j) → Go p l e R s m args below meth c Ph n0 h' k n q Ls st) : Go p l e R s m args below meth c Ph n0 h k n pc Ls (x :: .int j :: .ref a :: st) := fun T locs X N' eT => by
  have A' := A
  obtain ⟨c', A, r1, r2, r3⟩ := A
  obtain ⟨g1, g2⟩ := i32_idx hi r2 r1
  subst hj
  obtain ⟨T', h', X', e', W, stp⟩ := stR X C.1 C.2.2.2.2.1 eT A g1 hty F (g := mkF m pc Ls (x :: .int (Int32.ofNat i) :: .ref a :: st)) rfl rfl (hb C.2.1 d)
  have N2 := Fr.snoc X' N' ha
  rw [g2] at W
  obtain ⟨s₂, v, S, r⟩ := K h' W (A'.set W hi) T' _ X' N2 e'
  exact ⟨s₂, v, stp _ (by subst hq; exact S), r⟩
/-- a contract: with the arguments as', from the heap hs, the call returns v with Q v (the heap then); the written places lie at or above nf; rm: its room -/
def Ctr (l : Launch) (Z : State) (y : MethodName) (bytes : ByteArray) (maxL : Nat) (rt : Option FieldType) (rm : Room) (as' : Array Value) (hs : Heap) (nf : Nat) (Q : Option Value → Heap → Prop) : Prop :=
  MetFree l y (head1 [Cond.code y bytes maxL rt] rm) (fun a U => a = as' ∧ Z.Warmed39 U.vm ∧ U.heap = hs) (fun _ _ _ _ _ => True) (fun _ U o U' => ∃ v L, o = .returned v ∧ (Q v U'.heap ∧ Fr nf L) ∧ FrameEnd U o U' L rm.cells rm.slots)
/-- what a narrow walk must come to -/
def FinN (s : State) (below : List Frame) (rm : Room) (nf : Nat) (Q : Option Value → Heap → Prop) : State → Option Value → Prop :=
  fun s₂ v => s₂.status = .running ∧ Ended s₂ below (.returned v) ∧ ∃ L, (Q v s₂.heap ∧ Fr nf L) ∧ FrameEnd s (.returned v) s₂ L rm.cells rm.slots
theorem Ctr.of {l : Launch} {Z : State} {y : MethodName} {bytes : ByteArray} {maxL : Nat} {rt : Option FieldType} {rm : Room} {as' : Array Value} {hs : Heap} {nf : Nat} {Q : Option Value → Heap → Prop} {n1 : Nat} (Ls : Array Slot) (hp : plainFor y = true) (hE : ∀ m, entryFrame m as' maxL = mkF m 0 Ls [])
    (B : ∀ (p : Program) (e : Env) (s : State) (m : MethodId) (below : List Frame) (meth : Method) (c : Code), Cx p s m meth c Z y.cls y.name bytes maxL rt → Go p l e rm s m as' below meth c (FinN s below rm nf Q) n1 hs 0 0 0 Ls []) : Ctr l Z y bytes maxL rt rm as' hs nf Q := by
  refine MetFree.of_bodySF hp hisR ?_
  intro p e s m args below meth c s₁ Bd hml0 hP hK
  obtain ⟨rfl, hZ, hh⟩ := hP
  have X0 : Stand p l e rm s m _ below meth c s₁ [] 0 0 := Stand.of_body Bd
  have e0 : s₁.heap = hs := by rw [← hh, Bd.state]; rfl
  obtain ⟨s₂, v, S, r1, r2, L, r3, r4⟩ := B p e s m below meth c ⟨Bd.exec, Bd.bytes, hml0, findClass_of_methodNamed Bd.named, hZ, (name_of_methodNamed Bd.named Bd.method).1, Bd.returns, Bd.notSynchronized⟩ s₁ [] X0 (Fr.nil _) e0
  exact ⟨s₂, _, castTop (hE m) S, r1, r2, v, L, rfl, r3, r4⟩
theorem fin_of {T : State} {locs : List Loc} {rm : Room} {nf : Nat} {Q : Option Value → Heap → Prop} {v : Option Value} {st' : List Value} (C : Cx p s m meth c Z own nm code ml ret) (X : Stand p l e R s m args below meth c T locs k n) (N : Fr n0 locs) (eT : T.heap = h) (hv : ret = none → v = none) (hn : nf ≤ n0) (hk : k ≤ rm.cells) (hl : n ≤ rm.slots) (hQ : Q v h)
    (H : ∀ fs, (∀ (f : JFrame) (acts : List Action), f.method = m → f.locked = none → f.entered = [] → (doReturn e (T.setTop f) acts v).1 = T.setFrames fs) → Steps p.tables e below (T.setTop (mkF m pc Ls st')) (T.setFrames fs)) :
    ∃ s₂ v, Steps p.tables e below (T.setTop (mkF m pc Ls st')) s₂ ∧ FinN s below rm nf Q s₂ v := by
  obtain ⟨fs, hr, hrun, hended, hW, hsame⟩ := X.leave (v := v) (fun hh => hv (C.2.2.2.2.2.2.1.symm.trans hh)) C.2.2.2.2.2.2.2
  exact ⟨_, v, H fs hr, hrun, hended, locs, ⟨by rw [show (T.setFrames fs).heap = h from eT]; exact hQ, fun y hy => Nat.le_trans hn (N y hy)⟩, ⟨v, rfl⟩, hW, hsame.mono hk hl⟩
theorem g_return {rm : Room} {nf : Nat} {Q : Option Value → Heap → Prop} (C : Cx p s m meth c Z own nm code ml none) (d : decode code pc = .ok (.return_, 1)) (hn : nf ≤ n0) (hk : k ≤ rm.cells) (hl : n ≤ rm.slots) (hQ : Q none h) : Go p l e R s m args below meth c (FinN s below rm nf Q) n0 h k n pc Ls [] :=
  fun T locs X N eT => fin_of C X N eT (fun _ => rfl) hn hk hl hQ fun fs hr => X.returnOut C.1 C.2.2.2.2.2.2.1 (hb C.2.1 d) hr
theorem g_ireturn {rm : Room} {nf : Nat} {Q : Option Value → Heap → Prop} {x : Int32} (C : Cx p s m meth c Z own nm code ml (some .int)) (d : decode code pc = .ok (.ireturn, 1)) (hn : nf ≤ n0) (hk : k ≤ rm.cells) (hl : n ≤ rm.slots) (hQ : Q (some (.int x)) h) : Go p l e R s m args below meth c (FinN s below rm nf Q) n0 h k n pc Ls (.int x :: st) :=
  fun T locs X N eT => fin_of C X N eT (fun hh => nomatch hh) hn hk hl hQ fun fs hr => retI X C.1 C.2.2.2.2.2.2.1 (hb C.2.1 d) hr
theorem g_nreturn {rm : Room} {nf : Nat} {Q : Option Value → Heap → Prop} {x z : Int32} {t : FieldType} (C : Cx p s m meth c Z own nm code ml (some t)) (d : decode code pc = .ok (.ireturn, 1)) (ht : t = .boolean ∨ t = .byte ∨ t = .char ∨ t = .short) (hz : nar t x = z) (hn : nf ≤ n0) (hk : k ≤ rm.cells) (hl : n ≤ rm.slots) (hQ : Q (some (.int z)) h) : Go p l e R s m args below meth c (FinN s below rm nf Q) n0 h k n pc Ls (.int x :: st) :=
  fun T locs X N eT => fin_of (v := some (.int z)) C X N eT (fun hh => nomatch hh) hn hk hl hQ fun fs hr => retN X C.1 C.2.2.2.2.2.2.1 ht (hb C.2.1 d) (by rw [hz]; exact hr)
theorem g_lreturn {rm : Room} {nf : Nat} {Q : Option Value → Heap → Prop} {x : Int64} (C : Cx p s m meth c Z own nm code ml (some .long)) (d : decode code pc = .ok (.lreturn, 1)) (hn : nf ≤ n0) (hk : k ≤ rm.cells) (hl : n ≤ rm.slots) (hQ : Q (some (.long x)) h) : Go p l e R s m args below meth c (FinN s below rm nf Q) n0 h k n pc Ls (.long x :: st) :=
  fun T locs X N eT => fin_of C X N eT (fun hh => nomatch hh) hn hk hl hQ fun fs hr => retOut X C.1 C.2.2.2.2.2.2.1 rfl (Or.inr (Or.inl ⟨rfl, rfl, x, rfl⟩)) (hb C.2.1 d) hr
theorem g_areturn {rm : Room} {nf : Nat} {Q : Option Value → Heap → Prop} {x : Value} {t : FieldType} (C : Cx p s m meth c Z own nm code ml (some t)) (d : decode code pc = .ok (.areturn, 1)) (ht : t.isReference = true) (hx : x.isRef = true) (hn : nf ≤ n0) (hk : k ≤ rm.cells) (hl : n ≤ rm.slots) (hQ : Q (some x) h) : Go p l e R s m args below meth c (FinN s below rm nf Q) n0 h k n pc Ls (x :: st) :=
  fun T locs X N eT => fin_of C X N eT (fun hh => nomatch hh) hn hk hl hQ fun fs hr => retOut X C.1 C.2.2.2.2.2.2.1 (by rcases ref_cases hx with rfl | ⟨a, rfl⟩ <;> cases t <;> first | rfl | cases ht) (Or.inr (Or.inr (Or.inr (Or.inr ⟨rfl, ht, hx⟩)))) (hb C.2.1 d) hr
/-- a callee that pays, at this walk -/
def BK (l : Launch) (R : Room) (p : Program) (e : Env) (below : List Frame) (s : State) (args : Array Value) (y : MethodName) (len W : Nat) (as' : Array Value) (h : Heap) (ck sk n0 : Nat) (Q : Option Value → Heap → Prop) : Prop :=
  Back l R p e below s args y len W (fun A a => a = as' ∧ A.U.heap = h ∧ A.cells + ck ≤ R.cells ∧ A.slots + sk ≤ R.slots) (fun A _ v B => ∃ L, (Q v B.U.heap ∧ Fr n0 L) ∧ B.locs = A.locs ++ L ∧ B.cells = A.cells + ck ∧ B.slots = A.slots + sk)
theorem Ctr.bk {y : MethodName} {bytes : ByteArray} {maxL len W : Nat} {rt : Option FieldType} {rm : Room} {as' : Array Value} {Q : Option Value → Heap → Prop} (M : Ctr l Z y bytes maxL rt rm as' h n0 Q) (C : Cx p s m meth c Z own nm code ml ret) (w4 : (Cond.code y bytes maxL rt).before a0 Z = true) (w3 : (Cond.initialized y.cls).before a0 Z = true) (hf : rm.frames + 1 ≤ R.frames) (hl : W + (maxL + 11) + rm.locals ≤ R.locals) : BK l R p e below s args y len W as' h rm.cells rm.slots n0 Q :=
  backOf (W := W) (Q := fun v h' L => Q v h' ∧ Fr n0 L) M C.2.2.2.2.1 w4 w3 hf hl
theorem g_callS (C : Cx p s m meth c Z own nm code ml ret) {y : MethodName} {bytes : ByteArray} {maxL ck sk : Nat} {rt : Option FieldType} {Q : Option Value → Heap → Prop} {index W : Nat} {argsL : List Value} (d : decode code pc = .ok (.invokestatic index, 3)) (w1 : (Cond.methodLink own index y).before a0 Z = true) (w2 : (Cond.static y).before a0 Z = true) (w3 : (Cond.initialized y.cls).before a0 Z = true) (w4 : (Cond.code y bytes maxL rt).before a0 Z = true) (hy : y.cls ≠ "java/lang/invoke/MethodHandle" ∧ y.cls ≠ "java/lang/invoke/VarHandle")
    (M : BK l R p e below s args y 3 W argsL.toArray h ck sk n0 Q) (hc : k + ck ≤ R.cells) (hs : n + sk ≤ R.slots) (hsz : Ls.size = ml) (hlen : ∀ sig, parseMethodDescriptor y.desc = some sig → argsL.length = sig.parameters.length) (hst : st = argsL.reverse ++ rest) (hW : (rest.map fun v => v.category).sum = W) (hq : pc + 3 = q)
    (K : ∀ v h', Q v h' → ∃ st', st' = v.toList ++ rest ∧ Go p l e R s m args below meth c Ph n0 h' (k + ck) (n + sk) q Ls st') : Go p l e R s m args below meth c Ph n0 h k n pc Ls st := fun T locs X N eT => by
  have hZ := C.2.2.2.2.1
  obtain ⟨v, vm1, ⟨T', L', k', n'⟩, -, X', ⟨L, ⟨hQ, NL⟩, l1, l2, l3⟩, stp⟩ := Jvm.LawKit.callS X C.1 (y := y) C.2.2.2.1 (mvT hZ w1) (mvT hZ w2) (mvT hZ w3) (mvT hZ w4) hy M (g := mkF m pc Ls st) rfl (hsz.trans C.2.2.1.symm) (argsL := argsL) (rest := rest) hlen hst (by show 2 * 0 + _ ≤ _; rw [hW]; omega) (hb C.2.1 d) (fun _ _ => ⟨rfl, eT, hc, hs⟩)
  dsimp only [Pt.U, Pt.locs, Pt.cells, Pt.slots] at X' l1 l2 l3 stp
  subst l1 l2 l3
  obtain ⟨st', hst', K'⟩ := K v _ hQ
  obtain ⟨s₂, v', S, r⟩ := K' _ _ X' (N.app NL) rfl
  exact ⟨s₂, v', stp _ (by subst hq hst'; exact S), r⟩
theorem g_callI (C : Cx p s m meth c Z own nm code ml ret) {y : MethodName} {bytes : ByteArray} {maxL ck sk : Nat} {Q : Option Value → Heap → Prop} {index W : Nat} {argsL : List Value} {a : Addr} (d : decode code pc = .ok (.invokespecial index, 3)) (hy1 : y.name = "<init>") (w1 : (Cond.methodLink own index y).before a0 Z = true) (w2 : (Cond.instanceMethod y).before a0 Z = true) (w4 : (Cond.code y bytes maxL none).before a0 Z = true) (hy : y.cls ≠ "java/lang/invoke/MethodHandle" ∧ y.cls ≠ "java/lang/invoke/VarHandle")
    (M : BK l R p e below s args y 3 W (.ref a :: argsL).toArray h ck sk n0 Q) (hc : k + ck ≤ R.cells) (hs : n + sk ≤ R.slots) (hsz : Ls.size = ml) (hlen : ∀ sig, parseMethodDescriptor y.desc = some sig → argsL.length = sig.parameters.length) (hst : st = argsL.reverse ++ .ref a :: rest) (hW : (rest.map fun v => v.category).sum = W) (hq : pc + 3 = q)
    (K : ∀ v h', Q v h' → ∃ st', st' = v.toList ++ rest ∧ Go p l e R s m args below meth c Ph n0 h' (k + ck) (n + sk) q Ls st') : Go p l e R s m args below meth c Ph n0 h k n pc Ls st := fun T locs X N eT => by
  have hZ := C.2.2.2.2.1
  obtain ⟨v, vm1, ⟨T', L', k', n'⟩, -, X', ⟨L, ⟨hQ, NL⟩, l1, l2, l3⟩, stp⟩ := X.specialBack C.1 (y := y) hy1 C.2.2.2.1 (mvT hZ w1) (mvT hZ w2) (mvT hZ w4) hy M (g := mkF m pc Ls st) rfl (hsz.trans C.2.2.1.symm) (Steps.refl _) (a := a) (argsL := argsL) (rest := rest) hlen hst (by show 2 * 0 + _ ≤ _; rw [hW]; omega) (hb C.2.1 d) (fun _ _ => ⟨rfl, eT, hc, hs⟩)
  dsimp only [Pt.U, Pt.locs, Pt.cells, Pt.slots] at X' l1 l2 l3 stp
  subst l1 l2 l3
  obtain ⟨st', hst', K'⟩ := K v _ hQ
  obtain ⟨s₂, v', S, r⟩ := K' _ _ X' (N.app NL) rfl
  exact ⟨s₂, v', stp.trans (by subst hq hst'; exact S), r⟩
theorem g_callV (C : Cx p s m meth c Z own nm code ml ret) {y : MethodName} {ck sk : Nat} {Q : Option Value → Heap → Prop} {index W : Nat} {argsL : List Value} {y0 : MethodName} {Cl : String} {a : Addr} (d : decode code pc = .ok (.invokevirtual index, 3)) (w1 : (Cond.methodLink own index y0).before a0 Z = true) (w2 : (Cond.declares y0).before a0 Z = true) (w5 : (Cond.selects Cl y0 y).before a0 Z = true) (w6 : (Cond.instanceMethod y).before a0 Z = true) (hy : y0.cls ≠ "java/lang/invoke/MethodHandle" ∧ y0.cls ≠ "java/lang/invoke/VarHandle") (hnf : NotFace s y0)
    (E : Exa Z h a Cl) (M : BK l R p e below s args y 3 W (.ref a :: argsL).toArray h ck sk n0 Q) (hc : k + ck ≤ R.cells) (hs : n + sk ≤ R.slots) (hsz : Ls.size = ml) (hlen : ∀ sig, parseMethodDescriptor y0.desc = some sig → argsL.length = sig.parameters.length) (hst : st = argsL.reverse ++ .ref a :: rest) (hW : (rest.map fun v => v.category).sum = W) (hq : pc + 3 = q)
    (K : ∀ v h', Q v h' → ∃ st', st' = v.toList ++ rest ∧ Go p l e R s m args below meth c Ph n0 h' (k + ck) (n + sk) q Ls st') : Go p l e R s m args below meth c Ph n0 h k n pc Ls st := fun T locs X N eT => by
  have hZ := C.2.2.2.2.1
  obtain ⟨cq, kq, qa, qb, qc⟩ := isOf hZ eT E
  obtain ⟨v, vm1, ⟨T', L', k', n'⟩, -, X', ⟨L, ⟨hQ, NL⟩, l1, l2, l3⟩, stp⟩ := X.virtualBack C.1 (y := y0) (z := y) C.2.2.2.1 (mvT hZ w1) (mvT hZ w2) hnf (mvT hZ w5) (mvT hZ w6) hy M qa qc (g := mkF m pc Ls st) rfl (hsz.trans C.2.2.1.symm) (Steps.refl _) (argsL := argsL) (rest := rest) hlen hst (by show 2 * 0 + _ ≤ _; rw [hW]; omega) (hb C.2.1 d) (fun _ _ => ⟨rfl, eT, hc, hs⟩)
  dsimp only [Pt.U, Pt.locs, Pt.cells, Pt.slots] at X' l1 l2 l3 stp
  subst l1 l2 l3
  obtain ⟨st', hst', K'⟩ := K v _ hQ
  obtain ⟨s₂, v', S, r⟩ := K' _ _ X' (N.app NL) rfl
  exact ⟨s₂, v', stp.trans (by subst hq hst'; exact S), r⟩
theorem g_callP (C : Cx p s m meth c Z own nm code ml ret) {y : MethodName} {bytes : ByteArray} {maxL ck sk : Nat} {rt : Option FieldType} {Q : Option Value → Heap → Prop} {index W : Nat} {argsL : List Value} {Cl : String} {a : Addr} (d : decode code pc = .ok (.invokevirtual index, 3)) (w1 : (Cond.methodLink own index y).before a0 Z = true) (w2 : (Cond.instanceMethod y).before a0 Z = true) {kk : Nat} (wi : (Cond.instantiable y.cls kk).before a0 Z = true) (w4 : (Cond.code y bytes maxL rt).before a0 Z = true) (hy : y.cls ≠ "java/lang/invoke/MethodHandle" ∧ y.cls ≠ "java/lang/invoke/VarHandle") (hpr : s.PrivateAt y)
    (E : Exa Z h a Cl) (M : BK l R p e below s args y 3 W (.ref a :: argsL).toArray h ck sk n0 Q) (hc : k + ck ≤ R.cells) (hs : n + sk ≤ R.slots) (hsz : Ls.size = ml) (hlen : ∀ sig, parseMethodDescriptor y.desc = some sig → argsL.length = sig.parameters.length) (hst : st = argsL.reverse ++ .ref a :: rest) (hW : (rest.map fun v => v.category).sum = W) (hq : pc + 3 = q)
    (K : ∀ v h', Q v h' → ∃ st', st' = v.toList ++ rest ∧ Go p l e R s m args below meth c Ph n0 h' (k + ck) (n + sk) q Ls st') : Go p l e R s m args below meth c Ph n0 h k n pc Ls st := fun T locs X N eT => by
  have hZ := C.2.2.2.2.1
  obtain ⟨ce, hce, hob⟩ := E.cell
  obtain ⟨ci, ki, hci, hki, -, hni, -⟩ := Cond.instantiable_spec (mv (args := args) hZ wi)
  simp only [Bool.or_eq_false_iff] at hni
  have w5 : (Cond.selects y.cls y y).before args s = true := Jvm.Stand.selects_self_of_private hci hki hni.1 hpr (mvT hZ w2) hy
  obtain ⟨v, vm1, ⟨T', L', k', n'⟩, -, X', ⟨L, ⟨hQ, NL⟩, l1, l2, l3⟩, stp⟩ := X.privateBack C.1 (y := y) C.2.2.2.1 (mvT hZ w1) (mvT hZ w2) w5 hpr (mvT hZ w4) hy M (g := mkF m pc Ls st) rfl (hsz.trans C.2.2.1.symm) (Steps.refl _) (a := a) (cell := ce) (by rw [eT]; exact hce) hob (argsL := argsL) (rest := rest) hlen hst (by show 2 * 0 + _ ≤ _; rw [hW]; omega) (hb C.2.1 d) (fun _ _ => ⟨rfl, eT, hc, hs⟩)
  dsimp only [Pt.U, Pt.locs, Pt.cells, Pt.slots] at X' l1 l2 l3 stp
  subst l1 l2 l3
  obtain ⟨st', hst', K'⟩ := K v _ hQ
  obtain ⟨s₂, v', S, r⟩ := K' _ _ X' (N.app NL) rfl
  exact ⟨s₂, v', stp.trans (by subst hq hst'; exact S), r⟩
theorem g_callF (C : Cx p s m meth c Z own nm code ml ret) {y : MethodName} {ck sk : Nat} {Q : Option Value → Heap → Prop} {index W : Nat} {argsL : List Value} {xi : MethodName} {Cl : String} {a : Addr} {count : Nat} (d : decode code pc = .ok (.invokeinterface index count, 5)) (w1 : (Cond.methodLink own index xi).before a0 Z = true) (w2 : (Cond.declares xi).before a0 Z = true) (w3 : (Cond.interfaceMethod xi.cls xi.cls xi.name xi.desc).before a0 Z = true) (w5 : (Cond.selects Cl xi y).before a0 Z = true) (w6 : (Cond.instanceMethod y).before a0 Z = true) (w7 : (Cond.publicMethod y).before a0 Z = true) (w8 : (Cond.unhidden Cl xi.name xi.desc).before a0 Z = true) (w9 : (Cond.castable Cl xi.cls).before a0 Z = true) (hfa : ((Cond.interfaceMethod xi.cls xi.cls xi.name xi.desc).onTables && (Cond.interfaceMethod xi.cls xi.cls xi.name xi.desc).keepsFace) = true) (hy : xi.cls ≠ "java/lang/invoke/MethodHandle" ∧ xi.cls ≠ "java/lang/invoke/VarHandle")
    (E : Exa Z h a Cl) (M : BK l R p e below s args y 5 W (.ref a :: argsL).toArray h ck sk n0 Q) (hc : k + ck ≤ R.cells) (hs : n + sk ≤ R.slots) (hsz : Ls.size = ml) (hlen : ∀ sig, parseMethodDescriptor xi.desc = some sig → argsL.length = sig.parameters.length) (hst : st = argsL.reverse ++ .ref a :: rest) (hW : (rest.map fun v => v.category).sum = W) (hq : pc + 5 = q)
    (K : ∀ v h', Q v h' → ∃ st', st' = v.toList ++ rest ∧ Go p l e R s m args below meth c Ph n0 h' (k + ck) (n + sk) q Ls st') : Go p l e R s m args below meth c Ph n0 h k n pc Ls st := fun T locs X N eT => by
  have hZ := C.2.2.2.2.1
  obtain ⟨cq, kq, qa, qb, qc⟩ := isOf hZ eT E
  obtain ⟨v, vm1, ⟨T', L', k', n'⟩, -, X', ⟨L, ⟨hQ, NL⟩, l1, l2, l3⟩, stp⟩ := X.interfaceBack C.1 (xi := xi) (y := y) C.2.2.2.1 (mvT hZ w1) (mvT hZ w2) (mvT hZ w3 hfa) (mvT hZ w5) (mvT hZ w6) (mvT hZ w7) (mvT hZ w8) (mvT hZ w9) hy M qa qb qc (g := mkF m pc Ls st) rfl (hsz.trans C.2.2.1.symm) (Steps.refl _) (argsL := argsL) (rest := rest) hlen hst (by show 2 * 0 + _ ≤ _; rw [hW]; omega) (hb C.2.1 d) (fun _ _ => ⟨rfl, eT, hc, hs⟩)
  dsimp only [Pt.U, Pt.locs, Pt.cells, Pt.slots] at X' l1 l2 l3 stp
  subst l1 l2 l3
  obtain ⟨st', hst', K'⟩ := K v _ hQ
  obtain ⟨s₂, v', S, r⟩ := K' _ _ X' (N.app NL) rfl
  exact ⟨s₂, v', stp.trans (by subst hq hst'; exact S), r⟩
theorem nf_of {y : MethodName} {Cl : String} (C : Cx p s m meth c Z own nm code ml ret) (w : (Cond.selects Cl y y).before a0 Z = true) : NotFace s y := notFace_of_selects (args := #[]) (mvT C.2.2.2.2.1 w)
theorem priv_of {y : MethodName} (C : Cx p s m meth c Z own nm code ml ret) (w : (Cond.privateMethod y).before a0 Z = true) : s.PrivateAt y := Cond.privateMethod_at (args := #[]) (mvP C.2.2.2.2.1 w)
theorem Av.arv {a : Addr} {ty : FieldType} {N : Nat} {f : Nat → Value} {vs : List Value} {dv : Value} (A : Av Z h a ty N f) (hf : ∀ j, j < N → f j = vs.getD j dv) (hfit : ∀ j, j < N → fits ty (vs.getD j dv) = true) : ∃ kA, Arv Z h a kA ty (Int32.ofNat N) vs dv := by
  obtain ⟨c', A, r1, r2, r3⟩ := A
  have e : (Int32.ofNat N).toNatClampNeg = N := Int32.toNatClampNeg_ofNat_of_lt r2
  refine ⟨c'.cls, c', A, rfl, by rw [e]; exact r1, ?_, fun j hj => by rw [r3 j (r1 ▸ hj), hf j (r1 ▸ hj)], fun j hj => hfit j (r1 ▸ hj)⟩
  intro q
  have := Int32.lt_iff_toInt_lt.mp q
  rw [Int32.toInt_ofNat_of_lt r2] at this
  simp at this
  omega
theorem app_less {ws : List Cond} {c0 : Cond} {rm : Room} {y : MethodName} {pl : Platform} {sa : State} {ma : MethodId} {aa : Array Value} {ba : List Frame} (hf : sa.frames = .invoking ma aa :: ba) (hh : (head1 (c0 :: ws) rm).appliesLoose y pl sa = true) : (head1 [c0] rm).appliesLoose y pl sa = true := by
  obtain ⟨h1, h2, h3, h4, h5, h6, h7, h8⟩ := (Spec.appliesLoose_iff hf).mp hh
  refine (Spec.appliesLoose_iff hf).mpr ⟨h1, h2, h3, h4, h5, h6, h7, ?_⟩
  show (Cond.and c0 .tt).before aa sa = true
  rw [Cond.before_and, atoms_spec (ws := c0 :: ws) h8 c0 (List.mem_cons_self ..)]; rfl
theorem own_cat {v : Value} (hr : v.isRef = true) : v.category = 1 := by rcases ref_cases hr with rfl | ⟨a, rfl⟩ <;> rfl
theorem own_nar {v : Value} {cn : String} (hr : v.isRef = true) : narrow (.object cn) v = v := by rcases ref_cases hr with rfl | ⟨a, rfl⟩ <;> rfl
theorem own_fit {v : Value} {cn : String} (hr : v.isRef = true) : fits (.object cn) v = true := by rcases ref_cases hr with rfl | ⟨a, rfl⟩ <;> rfl
theorem Ext.keep {h0 h h' : Heap} {ws : List Addr} (E : Ext h0 h) (K : Keep h h' ws) (q : ∀ x ∈ ws, h0.size ≤ x) : Ext h0 h' := ⟨Nat.le_trans E.1 K.1, fun a c hc => K.2.1 a c (E.2 a c hc) fun hm => Nat.not_lt.mpr (q a hm) (Array.getElem?_eq_some_iff.mp hc).1⟩
theorem Ext.wr {h0 h h' : Heap} {a : Addr} {sl : Nat} {v : Value} (E : Ext h0 h) (W : Wr h h' a sl v) (q : h0.size ≤ a) : Ext h0 h' := Ext.keep E (Keep.of_wr W) fun x hx => by cases List.mem_singleton.mp hx; exact q
theorem Ext.tr {h0 h h' : Heap} (E : Ext h0 h) (E' : Ext h h') : Ext h0 h' := ⟨Nat.le_trans E.1 E'.1, fun a c hc => E'.2 a c (E.2 a c hc)⟩
theorem Ext.rfl' (h : Heap) : Ext h h := ⟨Nat.le_refl _, fun _ _ q => q⟩
theorem Ext.kp {h h' : Heap} (E : Ext h h') (ws : List Addr) : Keep h h' ws := (Keep.refl h ws).ext E
/-- an array of references of a class, which takes its objects -/
def Ao (Z : State) (h : Heap) (a : Addr) (Cl : String) (N : Nat) (f : Nat → Value) : Prop := ∃ c : Cell, Arr Z h a c (.object Cl) ∧ Ovr Z c.cls Cl ∧ c.slots.size = N ∧ N < 2 ^ 31 ∧ ∀ j, j < N → c.slots[j]? = some (f j)
theorem Ao.av {a : Addr} {Cl : String} {N : Nat} {f : Nat → Value} (A : Ao Z h a Cl N f) : Av Z h a (.object Cl) N f := by obtain ⟨c, A, -, r⟩ := A; exact ⟨c, A, r⟩
theorem Ao.lt {a : Addr} {Cl : String} {N : Nat} {f : Nat → Value} (A : Ao Z h a Cl N f) : a < h.size := A.av.lt
theorem Ao.ext {h' : Heap} {a : Addr} {Cl : String} {N : Nat} {f : Nat → Value} (A : Ao Z h a Cl N f) (E : Ext h h') : Ao Z h' a Cl N f := by obtain ⟨c, A, r⟩ := A; exact ⟨c, A.ext E, r⟩
theorem Ao.other {h' : Heap} {a b : Addr} {Cl : String} {N sl : Nat} {v : Value} {f : Nat → Value} (A : Ao Z h b Cl N f) (W : Wr h h' a sl v) (ne : b ≠ a) : Ao Z h' b Cl N f := by obtain ⟨c, A, r⟩ := A; exact ⟨c, A.other W ne, r⟩
theorem Ao.keep {h' : Heap} {a : Addr} {Cl : String} {N : Nat} {f : Nat → Value} {ws : List Addr} (A : Ao Z h a Cl N f) (K : Keep h h' ws) (ne : a ∉ ws) : Ao Z h' a Cl N f := by obtain ⟨c, A, r⟩ := A; exact ⟨c, ⟨K.2.1 a c A.1 ne, A.2⟩, r⟩
theorem Ao.set {h' : Heap} {a : Addr} {Cl : String} {N i : Nat} {v : Value} {f : Nat → Value} (A : Ao Z h a Cl N f) (W : Wr h h' a i v) (hi : i < N) : Ao Z h' a Cl N (fun j => if j = i then v else f j) := by
  obtain ⟨c, A, O, r1, r2, r3⟩ := A
  refine ⟨c.setSlot i v, A.same W, O, by rw [sz_set]; exact r1, r2, fun j hj => ?_⟩
  by_cases e : j = i
  · subst e; simp [Cell.setSlot, r1, hi]
  · show (c.setSlot i v).slots[j]? = some (if j = i then v else f j)
    rw [if_neg e, ← r3 j hj]; simp [Cell.setSlot, Array.getElem?_setIfInBounds_ne (Ne.symm e)]
theorem Ao.sto {a y : Addr} {Cl : String} {N : Nat} {f : Nat → Value} (A : Ao Z h a Cl N f) (I : Ins Z h y Cl true) : Sto Z h a (.ref y) := by obtain ⟨c, A, O, -⟩ := A; exact Sto.of A O I
theorem Ao.new {a : Addr} {Cl : String} {cA : ClassId} {N' : Int32} (A : Arr Z h a (newA cA (.object Cl) N') (.object Cl)) (O : Ovr Z cA Cl) (hn : ¬ N' < 0) : Ao Z h a Cl N'.toNatClampNeg (fun _ => .null) :=
  ⟨_, A, O, sz_new _ _ _, (back32 hn).2, fun j hj => by simp [newA, hj, defaultValue]⟩
theorem Av.fitc {a : Addr} {ty : FieldType} {N : Nat} {f : Nat → Value} (A : Av Z h a ty N f) (hf : ∀ j, j < N → fits ty (f j) = true) : ∃ cl, Arr Z h a cl ty ∧ cl.slots.size = N ∧ N < 2 ^ 31 ∧ (∀ j, j < N → cl.slots[j]? = some (f j)) ∧ FitC Z cl := by
  obtain ⟨cl, A, r1, r2, r3⟩ := A
  refine ⟨cl, A, r1, r2, r3, fun i v hv => ?_⟩
  obtain ⟨hi, -⟩ := Array.getElem?_eq_some_iff.mp hv
  obtain ⟨hs, kk, hk, comp, hkind⟩ := A.2.1
  have e1 := r3 i (r1 ▸ hi)
  rw [hv] at e1
  cases e1
  simp [State.fitsSlot, State.slotType?, hk, hkind, hf i (r1 ▸ hi)]
theorem g_newarrayE (C : Cx p s m meth c Z own nm code ml ret) {aty : ArrayType} {N' : Int32} {cap : Nat} {ad : String} (d : decode code pc = .ok (.newarray aty, 2)) (w : (Cond.arrayClass (newarray.typeOf aty)).before a0 Z = true) (hn : ¬ N' < 0) (hcap : N'.toNatClampNeg ≤ cap) (hbg : cap * 8 ≤ 536870912) (hc : k + 1 ≤ R.cells) (hl : n + cap ≤ R.slots) (had : "[" ++ (newarray.typeOf aty).toString = ad) (hq : pc + 2 = q)
    (K : ∀ (a : Addr) (h' : Heap) (cA : ClassId), a = h.size → Ext h h' → Arr Z h' a (newA cA (newarray.typeOf aty) N') (newarray.typeOf aty) → Exa Z h' a ad → Go p l e R s m args below meth c Ph n0 h' (k + 1) (n + cap) q Ls (.ref a :: st)) : Go p l e R s m args below meth c Ph n0 h k n pc Ls (.int N' :: st) := fun T locs X N eT => by
  obtain ⟨T', h', cA, X', e', E, A, EA, stp⟩ := newPE X C.1 C.2.2.2.2.1 w eT (g := mkF m pc Ls (.int N' :: st)) rfl (hb C.2.1 d) rfl hn hcap hbg hc hl had
  obtain ⟨s₂, v, S, r⟩ := K _ h' cA rfl E A EA T' locs X' N e'
  exact ⟨s₂, v, stp _ (by subst hq; exact S), r⟩
theorem g_clone (C : Cx p s m meth c Z own nm code ml ret) {ad : String} {index W cap N : Nat} {a : Addr} {ty : FieldType} {f : Nat → Value} (d : decode code pc = .ok (.invokevirtual index, 3)) (w1 : (Cond.methodLink own index ⟨ad, "clone", "()Ljava/lang/Object;"⟩).before a0 Z = true) (w2 : (Cond.sameMethod ad "java/lang/Object" "clone" "()Ljava/lang/Object;").before a0 Z = true) (w3 : (Cond.native ⟨"java/lang/Object", "clone", "()Ljava/lang/Object;"⟩).before a0 Z = true)
    (w4 : (Cond.instanceMethod ⟨"java/lang/Object", "clone", "()Ljava/lang/Object;"⟩).before a0 Z = true) (w5 : (Cond.selects ad ⟨ad, "clone", "()Ljava/lang/Object;"⟩ ⟨"java/lang/Object", "clone", "()Ljava/lang/Object;"⟩).before a0 Z = true) (w6 : (Cond.castable ad "java/lang/Cloneable").before a0 Z = true)
    (A : Av Z h a ty N f) (hfit : ∀ j, j < N → fits ty (f j) = true) (E : Exa Z h a ad) (hsz : Ls.size = ml) (hf : 1 ≤ R.frames) (hW : (st.map fun v => v.category).sum = W) (hl : W + 14 ≤ R.locals) (hcap : N ≤ cap) (hc : k + 1 ≤ R.cells) (hsl : n + cap ≤ R.slots) (hq : pc + 3 = q)
    (K : ∀ (b : Addr) (h' : Heap), b = h.size → Ext h h' → Av Z h' b ty N f → Exa Z h' b ad → Go p l e R s m args below meth c Ph n0 h' (k + 1) (n + cap) q Ls (.ref b :: st)) : Go p l e R s m args below meth c Ph n0 h k n pc Ls (.ref a :: st) := fun T locs X N' eT => by
  obtain ⟨cl, A, r1, r2, r3, FC⟩ := A.fitc hfit
  obtain ⟨T', h', X', e', E', A', EA, stp⟩ := cloneA X C.1 C.2.2.2.2.1 C.2.2.2.1 w1 w2 w3 w4 w5 w6 eT A E FC (g := mkF m pc Ls (.ref a :: st)) rfl (hsz.trans C.2.2.1.symm) rfl (hb C.2.1 d) hf (W := W) (cap := cap) (by show 2 * 0 + _ ≤ _; rw [hW]; omega) hl (by rw [r1]; exact hcap) hc hsl
  obtain ⟨s₂, v, S, r⟩ := K _ h' rfl E' ⟨_, A', r1, r2, r3⟩ EA T' locs X' N' e'
  exact ⟨s₂, v, stp _ (by subst hq; exact S), r⟩
theorem Av.rng {a : Addr} {ty : FieldType} {N : Nat} {f : Nat → Value} (A : Av Z h a ty N f) (hf : ∀ j, j < N → fits ty (f j) = true) (dv : Value) : ∃ kA, Arv Z h a kA ty (Int32.ofNat N) ((List.range N).map f) dv :=
  A.arv (fun j hj => by simp [List.getD, hj]) (fun j hj => by simpa [List.getD, hj] using hf j hj)
theorem Av.of_arv {a : Addr} {ty : FieldType} {N : Nat} {kA : ClassId} {z : Int32} {vs : List Value} {dv : Value} (A : Arv Z h a kA ty z vs dv) (hz : z.toNatClampNeg = N) : Av Z h a ty N (fun j => vs.getD j dv) := by
  obtain ⟨c', A, -, r1, r2, H, -⟩ := A
  rw [hz] at r1
  exact ⟨c', A, r1, by rw [← hz]; exact (back32 r2).2, fun j hj => H j (by rw [r1]; exact hj)⟩
theorem nn32 {i : Nat} (hi : i < 2 ^ 31) : ¬ Int32.ofNat i < 0 := by
  rw [Int32.lt_iff_toInt_lt, Int32.toInt_ofNat_of_lt hi]; have e0 : (0 : Int32).toInt = 0 := rfl; omega
theorem g_acopy (C : Cx p s m meth c Z own nm code ml ret) {index W N M sp dp nn : Nat} {a b : Addr} {ty : FieldType} {f f' : Nat → Value} {i1 i2 i3 : Int32} (d : decode code pc = .ok (.invokestatic index, 3)) (w1 : (Cond.methodLink own index Jvm.Stand.acN).before a0 Z = true) (w2 : (Cond.native Jvm.Stand.acN).before a0 Z = true) (w3 : (Cond.static Jvm.Stand.acN).before a0 Z = true) (w4 : (Cond.initialized "java/lang/System").before a0 Z = true)
    (A : Av Z h a ty N f) (B : Av Z h b ty M f') (hrk : refKind ty = false) (hfa : ∀ j, j < N → fits ty (f j) = true) (hfb : ∀ j, j < M → fits ty (f' j) = true) (e1 : i1 = Int32.ofNat sp) (e2 : i2 = Int32.ofNat dp) (e3 : i3 = Int32.ofNat nn) (h1 : sp + nn ≤ N) (h2 : dp + nn ≤ M) (ge : n0 ≤ b) (hsz : Ls.size = ml) (hf : 1 ≤ R.frames) (hW : (st.map fun v => v.category).sum = W) (hl : W + (nativeFrameWords "java/lang/System" "arraycopy" 5 + 11) ≤ R.locals) (hq : pc + 3 = q)
    (K : ∀ (h' : Heap), Keep h h' [b] → Av Z h' b ty M (fun j => if dp ≤ j ∧ j < dp + nn then f (sp + (j - dp)) else f' j) → Go p l e R s m args below meth c Ph n0 h' k n q Ls st) : Go p l e R s m args below meth c Ph n0 h k n pc Ls (.int i3 :: .int i2 :: .ref b :: .int i1 :: .ref a :: st) := fun T locs X N' eT => by
  have hN : N < 2 ^ 31 := by obtain ⟨_, _, _, r, _⟩ := A; exact r
  have hM : M < 2 ^ 31 := by obtain ⟨_, _, _, r, _⟩ := B; exact r
  obtain ⟨kA, A1⟩ := A.rng hfa .null
  obtain ⟨kB, B1⟩ := B.rng hfb .null
  have t1 : (Int32.ofNat sp).toNatClampNeg = sp := Int32.toNatClampNeg_ofNat_of_lt (by omega)
  have t2 : (Int32.ofNat dp).toNatClampNeg = dp := Int32.toNatClampNeg_ofNat_of_lt (by omega)
  have t3 : (Int32.ofNat nn).toNatClampNeg = nn := Int32.toNatClampNeg_ofNat_of_lt (by omega)
  have t4 : (Int32.ofNat N).toNatClampNeg = N := Int32.toNatClampNeg_ofNat_of_lt hN
  have t5 : (Int32.ofNat M).toNatClampNeg = M := Int32.toNatClampNeg_ofNat_of_lt hM
  subst e1 e2 e3
  obtain ⟨T', h', L, X', e', N2, Kp, Bv, stp⟩ := cpA X C.1 C.2.2.2.2.1 C.2.2.2.1 w1 w2 w3 w4 eT A1 B1 (Or.inl ⟨rfl, hrk⟩) (nn32 (by omega)) (nn32 (by omega)) (nn32 (by omega)) (by rw [t1, t3, t4]; exact h1) (by rw [t2, t3, t5]; exact h2) rfl (by rw [t2, t3]; simpa using h2) N' ge (g := mkF m pc Ls (.int (Int32.ofNat nn) :: .int (Int32.ofNat dp) :: .ref b :: .int (Int32.ofNat sp) :: .ref a :: st)) rfl (hsz.trans C.2.2.1.symm) rfl (hb C.2.1 d) hf (W := W) (by show 2 * 0 + _ ≤ _; rw [hW]; omega) hl
  have B2 := (Av.of_arv Bv t5).congr (g := fun j => if dp ≤ j ∧ j < dp + nn then f (sp + (j - dp)) else f' j) (fun j hj => by
    rw [t1, t2, t3]
    simp only [List.getD_eq_getElem?_getD]
    by_cases c1 : j < dp
    · rw [if_neg (by omega), List.append_assoc, List.getElem?_append_left (by simp; omega), List.getElem?_take_of_lt c1]
      simp [hj]
    · by_cases c2 : j < dp + nn
      · rw [if_pos ⟨by omega, c2⟩, List.getElem?_append_left (by simp; omega), List.getElem?_append_right (by simp; omega)]
        simp [show min dp M = dp by omega, show j - dp < nn by omega, show sp + (j - dp) < N by omega]
      · rw [if_neg (by omega), List.getElem?_append_right (by simp; omega)]
        simp [show min dp M = dp by omega, show dp + nn + (j - (dp + nn)) = j by omega, hj])
  obtain ⟨s₂, v, S, r⟩ := K h' Kp B2 T' L X' N2 e'
  exact ⟨s₂, v, stp _ (by subst hq; exact S), r⟩
end GoRules
/-! ## The wide walk: literals may be loaded (the tables' interned strings grow); the Stand is over s0 with the tables of the moment -/
section GoWide
variable {p : Program} {l : Launch} {e : Env} {R : Room} {s0 : State} {vm0 : Vm} {m : MethodId} {args : Array Value} {below : List Frame} {meth : Method} {c : Code} {Ph : State → Option Value → Prop} {n0 : Nat} {h : Heap} {k n : Nat} {pc q : Nat} {Ls : Array Slot} {st rest : List Value} {Z : State} {a0 : Array Value} {own nm : String} {code : ByteArray} {ml : Nat} {ret : Option FieldType}
def Sn (s0 : State) (vm0 : Vm) (h : Heap) : Prop := ∃ k0, s0.Since vm0 k0 ∧ k0 ≤ h.size
theorem Sn.mono {h' : Heap} (S : Sn s0 vm0 h) (q : h.size ≤ h'.size) : Sn s0 vm0 h' := by obtain ⟨k0, h1, h2⟩ := S; exact ⟨k0, h1, Nat.le_trans h2 q⟩
theorem IB.warm {vm1 : Vm} {Ts : List String} (I : IB Z vm0 Ts) (hW : (s0.setVm vm0).WarmedH vm1) : IB Z vm1 Ts := by
  obtain ⟨more, e, hm⟩ := I
  exact ⟨more, (hW.interned_eq).trans e, hm⟩
def CtrW (l : Launch) (Z : State) (y : MethodName) (bytes : ByteArray) (maxL : Nat) (rt : Option FieldType) (rm : Room) (as' : Array Value) (hs : Heap) (nf : Nat) (P : Vm → Prop) (Q : Option Value → Vm → Heap → Prop) : Prop :=
  MetFree l y (head1 [Cond.code y bytes maxL rt] rm) (fun a U => a = as' ∧ Z.Warmed39 U.vm ∧ U.heap = hs ∧ P U.vm) (fun _ _ _ _ _ => True) (fun _ U o U' => ∃ v L, o = .returned v ∧ (Q v U'.vm U'.heap ∧ Fr nf L) ∧ ReturnedEndW U o U' L rm.cells rm.slots)
def FinW (s0 : State) (below : List Frame) (rm : Room) (nf : Nat) (Q : Option Value → Vm → Heap → Prop) : State → Option Value → Prop :=
  fun s₂ v => s₂.status = .running ∧ Ended s₂ below (.returned v) ∧ ∃ L, (Q v s₂.vm s₂.heap ∧ Fr nf L) ∧ ReturnedEndW s0 (.returned v) s₂ L rm.cells rm.slots
theorem CtrW.of {l : Launch} {Z : State} {y : MethodName} {bytes : ByteArray} {maxL : Nat} {rt : Option FieldType} {rm : Room} {as' : Array Value} {hs : Heap} {nf : Nat} {P : Vm → Prop} {Q : Option Value → Vm → Heap → Prop} {n1 : Nat} (Ls : Array Slot) (hp : plainFor y = true) (hE : ∀ m, entryFrame m as' maxL = mkF m 0 Ls [])
    (B : ∀ (p : Program) (e : Env) (s0 : State) (vm0 : Vm) (m : MethodId) (below : List Frame) (meth : Method) (c : Code), Cx p (s0.setVm vm0) m meth c Z y.cls y.name bytes maxL rt → s0.heap = hs → P vm0 → Sn s0 vm0 hs → Go p l e rm (s0.setVm vm0) m as' below meth c (FinW s0 below rm nf Q) n1 hs 0 0 0 Ls []) : CtrW l Z y bytes maxL rt rm as' hs nf P Q := by
  refine MetFree.of_bodySF hp hisR ?_
  intro p e s m args below meth c s₁ Bd hml0 hP hK
  obtain ⟨rfl, hZ, hh, hPv⟩ := hP
  have X0 : Stand p l e rm s m _ below meth c s₁ [] 0 0 := Stand.of_body Bd
  have e0 : s₁.heap = hs := by rw [← hh, Bd.state]; rfl
  have S0 : Sn s s.vm hs := ⟨s.heap.size, (State.WarmedH.refl s).since _, by rw [hh]; exact Nat.le_refl _⟩
  obtain ⟨s₂, v, S, r1, r2, L, r3, r4⟩ := B p e s s.vm m below meth c ⟨Bd.exec, Bd.bytes, hml0, findClass_of_methodNamed Bd.named, hZ, (name_of_methodNamed Bd.named Bd.method).1, Bd.returns, Bd.notSynchronized⟩ hh hPv S0 s₁ [] X0 (Fr.nil _) e0
  exact ⟨s₂, _, castTop (hE m) S, r1, r2, v, L, rfl, r3, r4⟩
theorem finW_of {T : State} {locs : List Loc} {rm : Room} {nf : Nat} {Q : Option Value → Vm → Heap → Prop} {v : Option Value} {st' : List Value} (C : Cx p (s0.setVm vm0) m meth c Z own nm code ml ret) (Sw : Sn s0 vm0 h) (X : Stand p l e R (s0.setVm vm0) m args below meth c T locs k n) (N : Fr n0 locs) (eT : T.heap = h) (hv : ret = none → v = none) (hn : nf ≤ n0) (hk : k ≤ rm.cells) (hl : n ≤ rm.slots) (hQ : ∀ vm1, (s0.setVm vm0).WarmedH vm1 → Q v vm1 h)
    (H : ∀ fs, (∀ (f : JFrame) (acts : List Action), f.method = m → f.locked = none → f.entered = [] → (doReturn e (T.setTop f) acts v).1 = T.setFrames fs) → Steps p.tables e below (T.setTop (mkF m pc Ls st')) (T.setFrames fs)) :
    ∃ s₂ v, Steps p.tables e below (T.setTop (mkF m pc Ls st')) s₂ ∧ FinW s0 below rm nf Q s₂ v := by
  obtain ⟨k0, hS, hk0⟩ := Sw
  obtain ⟨fs, hr, hrun, hended, h1, h2, h3, hsame⟩ := X.leaveW (v := v) hS (by rw [eT]; exact hk0) (fun hh => hv (C.2.2.2.2.2.2.1.symm.trans hh)) C.2.2.2.2.2.2.2
  exact ⟨_, v, H fs hr, hrun, hended, locs, ⟨by rw [show (T.setFrames fs).heap = h from eT]; exact hQ _ X.warmed, fun y hy => Nat.le_trans hn (N y hy)⟩, h1, h2, h3, hsame.mono hk hl⟩
theorem g_returnW {rm : Room} {nf : Nat} {Q : Option Value → Vm → Heap → Prop} (C : Cx p (s0.setVm vm0) m meth c Z own nm code ml none) (Sw : Sn s0 vm0 h) (d : decode code pc = .ok (.return_, 1)) (hn : nf ≤ n0) (hk : k ≤ rm.cells) (hl : n ≤ rm.slots) (hQ : ∀ vm1, (s0.setVm vm0).WarmedH vm1 → Q none vm1 h) : Go p l e R (s0.setVm vm0) m args below meth c (FinW s0 below rm nf Q) n0 h k n pc Ls [] :=
  fun T locs X N eT => finW_of C Sw X N eT (fun _ => rfl) hn hk hl hQ fun fs hr => X.returnOut C.1 C.2.2.2.2.2.2.1 (hb C.2.1 d) hr
theorem g_ireturnW {rm : Room} {nf : Nat} {Q : Option Value → Vm → Heap → Prop} {x : Int32} (C : Cx p (s0.setVm vm0) m meth c Z own nm code ml (some .int)) (Sw : Sn s0 vm0 h) (d : decode code pc = .ok (.ireturn, 1)) (hn : nf ≤ n0) (hk : k ≤ rm.cells) (hl : n ≤ rm.slots) (hQ : ∀ vm1, (s0.setVm vm0).WarmedH vm1 → Q (some (.int x)) vm1 h) : Go p l e R (s0.setVm vm0) m args below meth c (FinW s0 below rm nf Q) n0 h k n pc Ls (.int x :: st) :=
  fun T locs X N eT => finW_of C Sw X N eT (fun hh => nomatch hh) hn hk hl hQ fun fs hr => retI X C.1 C.2.2.2.2.2.2.1 (hb C.2.1 d) hr
theorem g_nreturnW {rm : Room} {nf : Nat} {Q : Option Value → Vm → Heap → Prop} {x z : Int32} {t : FieldType} (C : Cx p (s0.setVm vm0) m meth c Z own nm code ml (some t)) (Sw : Sn s0 vm0 h) (d : decode code pc = .ok (.ireturn, 1)) (ht : t = .boolean ∨ t = .byte ∨ t = .char ∨ t = .short) (hz : nar t x = z) (hn : nf ≤ n0) (hk : k ≤ rm.cells) (hl : n ≤ rm.slots) (hQ : ∀ vm1, (s0.setVm vm0).WarmedH vm1 → Q (some (.int z)) vm1 h) : Go p l e R (s0.setVm vm0) m args below meth c (FinW s0 below rm nf Q) n0 h k n pc Ls (.int x :: st) :=
  fun T locs X N eT => finW_of (v := some (.int z)) C Sw X N eT (fun hh => nomatch hh) hn hk hl hQ fun fs hr => retN X C.1 C.2.2.2.2.2.2.1 ht (hb C.2.1 d) (by rw [hz]; exact hr)
theorem g_areturnW {rm : Room} {nf : Nat} {Q : Option Value → Vm → Heap → Prop} {x : Value} {t : FieldType} (C : Cx p (s0.setVm vm0) m meth c Z own nm code ml (some t)) (Sw : Sn s0 vm0 h) (d : decode code pc = .ok (.areturn, 1)) (ht : t.isReference = true) (hx : x.isRef = true) (hn : nf ≤ n0) (hk : k ≤ rm.cells) (hl : n ≤ rm.slots) (hQ : ∀ vm1, (s0.setVm vm0).WarmedH vm1 → Q (some x) vm1 h) : Go p l e R (s0.setVm vm0) m args below meth c (FinW s0 below rm nf Q) n0 h k n pc Ls (x :: st) :=
  fun T locs X N eT => finW_of C Sw X N eT (fun hh => nomatch hh) hn hk hl hQ fun fs hr => retOut X C.1 C.2.2.2.2.2.2.1 (by rcases ref_cases hx with rfl | ⟨a, rfl⟩ <;> cases t <;> first | rfl | cases ht) (Or.inr (Or.inr (Or.inr (Or.inr ⟨rfl, ht, hx⟩)))) (hb C.2.1 d) hr
theorem g_ldcS (C : Cx p (s0.setVm vm0) m meth c Z own nm code ml ret) {index : Nat} {text : String} {Ts : List String} {vs : List Value} {z : Int32} {nn : Nat} (Sw : Sn s0 vm0 h) (d : decode code pc = .ok (.ldc index, 2)) (w : (Cond.stringLink own index text).before a0 Z = true) (wS : ∀ a ∈ Bundle.stringAtoms, a.before a0 Z = true) (hkeep : ∀ (b : Addr) (cl : Cell), Z.heap[b]? = some cl → s0.heap[b]? = some cl) (hn0 : s0.heap.size ≤ n0) (I : IB Z vm0 Ts) (hnot : text ∉ Ts) (hh : Jvm.Lit.constHeld Z own index) (hcw : Jvm.Lit.compactW.before a0 Z = true)
    (ht : (∀ c ∈ text.toList, c.toNat < 256) ∧ text.toList.map (fun c => Value.int (Jvm.Lit.byteI c.toNat.toUInt16)) = vs) (hz : ¬ z < 0) (hzl : z.toNatClampNeg = vs.length) (hn : 4 * text.toList.length ≤ nn) (hbig : nn ≤ 536870912) (hc : k + 2 ≤ R.cells) (hl : n + (nn + 4) ≤ R.slots) (hq : pc + 2 = q)
    (K : ∀ (a : Addr) (vm1 : Vm) (h' : Heap) (b : Addr) (kb : ClassId), Ext h h' → Cx p (s0.setVm vm1) m meth c Z own nm code ml ret → Sn s0 vm1 h' → IB Z vm1 (text :: Ts) → Lit (s0.setVm vm1) own index a → Exa Z h' a "java/lang/String" → Fld Z h' a "java/lang/String" "coder" "B" (.int 0) → Fld Z h' a "java/lang/String" "value" "[B" (.ref b) → Arv Z h' b kb .byte z vs (.int 0) → Go p l e R (s0.setVm vm1) m args below meth c Ph n0 h' (k + 2) (n + (nn + 4)) q Ls (.ref a :: st)) : Go p l e R (s0.setVm vm0) m args below meth c Ph n0 h k n pc Ls st := fun T locs X N eT => by
  obtain ⟨k0, hS, hk0⟩ := Sw
  obtain ⟨a, T', h', k1, b, kb, X', e', E, hS', hk1, hZ', hown', E1, F1, F2, A1, -, -, I', L', stp⟩ := ldcSVL X C.1 C.2.2.2.2.1 C.2.2.2.1 w wS eT hS hk0 (fun y hy => Nat.le_trans hn0 (N y hy)) hkeep I hnot hh hcw ht hz hzl (g := mkF m pc Ls st) rfl (hb C.2.1 d) hn hbig hc hl
  obtain ⟨s₂, v, S, r⟩ := K a T'.vm h' b kb E ⟨C.1, C.2.1, C.2.2.1, hown', hZ', C.2.2.2.2.2⟩ ⟨k1, hS', hk1⟩ I' L' E1 F1 F2 A1 T' locs X' N e'
  exact ⟨s₂, v, stp _ (by subst hq; exact S), r⟩
theorem g_ldcA (C : Cx p (s0.setVm vm0) m meth c Z own nm code ml ret) {index : Nat} {text : String} {a : Addr} (d : decode code pc = .ok (.ldc index, 2)) (w : (Cond.stringLink own index text).before a0 Z = true) (Lt : Lit (s0.setVm vm0) own index a) (hq : pc + 2 = q) (K : Go p l e R (s0.setVm vm0) m args below meth c Ph n0 h k n q Ls (.ref a :: st)) : Go p l e R (s0.setVm vm0) m args below meth c Ph n0 h k n pc Ls st := fun T locs X N eT => by
  obtain ⟨s₂, v, S, r⟩ := K T locs X N eT
  exact ⟨s₂, v, ldcAgain X C.1 C.2.2.2.2.1 C.2.2.2.1 w Lt (g := mkF m pc Ls st) rfl (hb C.2.1 d) _ (by subst hq; exact S), r⟩
theorem g_ldcN (C : Cx p (s0.setVm vm0) m meth c Z own nm code ml ret) {index : Nat} {text : String} {nn : Nat} (Sw : Sn s0 vm0 h) (d : decode code pc = .ok (.ldc index, 2)) (w : (Cond.stringLink own index text).before a0 Z = true) (wS : ∀ a ∈ Bundle.stringAtoms, a.before a0 Z = true) (hn : 4 * text.toList.length ≤ nn) (hbig : nn ≤ 536870912) (hc : k + 2 ≤ R.cells) (hl : n + (nn + 4) ≤ R.slots) (hq : pc + 2 = q)
    (K : ∀ (a : Addr) (vm1 : Vm) (h' : Heap), Ext h h' → Cx p (s0.setVm vm1) m meth c Z own nm code ml ret → Sn s0 vm1 h' → Go p l e R (s0.setVm vm1) m args below meth c Ph n0 h' (k + 2) (n + (nn + 4)) q Ls (.ref a :: st)) : Go p l e R (s0.setVm vm0) m args below meth c Ph n0 h k n pc Ls st := fun T locs X N eT => by
  obtain ⟨k0, hS, hk0⟩ := Sw
  obtain ⟨a, T', h', k1, X', e', E, hS', hk1, hZ', hown', stp⟩ := ldcS X C.1 C.2.2.2.2.1 C.2.2.2.1 w wS eT hS hk0 (g := mkF m pc Ls st) rfl (hb C.2.1 d) hn hbig hc hl
  obtain ⟨s₂, v, S, r⟩ := K a T'.vm h' E ⟨C.1, C.2.1, C.2.2.1, hown', hZ', C.2.2.2.2.2⟩ ⟨k1, hS', hk1⟩ T' locs X' N e'
  exact ⟨s₂, v, stp _ (by subst hq; exact S), r⟩
theorem backOfW {s : State} {y : MethodName} {bytes : ByteArray} {maxL : Nat} {rt : Option FieldType} {rm : Room} {len W : Nat} {as' : Array Value} {P : Vm → Prop} {Q : Option Value → Vm → Heap → Prop} {nf : Nat}
    (hM : CtrW l Z y bytes maxL rt rm as' h nf P Q) (hZ : Z.Warmed39 s.vm) (wc : (Cond.code y bytes maxL rt).before a0 Z = true) (wz : (Cond.initialized y.cls).before a0 Z = true) (hf : rm.frames + 1 ≤ R.frames) (hl : W + (maxL + 11) + rm.locals ≤ R.locals) :
    BackS l R p e below s args y len W (fun A a => a = as' ∧ A.U.heap = h ∧ P A.U.vm ∧ A.cells + rm.cells ≤ R.cells ∧ A.slots + rm.slots ≤ R.slots)
      (fun A _ v B => ∃ L, (Q v B.U.vm B.U.heap ∧ Fr nf L) ∧ B.locs = A.locs ++ L ∧ B.cells = A.cells + rm.cells ∧ B.slots = A.slots + rm.slots) :=
  BackS.of_freeW (bytes := bytes) (maxL := maxL) (ret := rt) (E := fun _ _ o t L k n => k = rm.cells ∧ n = rm.slots ∧ ∃ v, o = .returned v ∧ (Q v t.vm t.heap ∧ Fr nf L)) hM hf hl
    (fun m meth c A a Y hp => have hU : Z.Warmed39 A.U.vm := wtrans hZ Y.warmed
      ⟨by show (Cond.and _ .tt).before a A.U = true; rw [Cond.before_and, mv hU wc]; rfl, mv hU wc, mv hU wz, hp.2.2.2.1, hp.2.2.2.2⟩)
    (fun m meth c A a g mk Y hp => ⟨hp.1, wtrans hZ Y.warmed, hp.2.1, hp.2.2.1⟩) (fun _ _ _ _ _ _ _ _ _ => trivial)
    (fun _ _ _ _ ⟨v, L, h1, h2, h3⟩ => ⟨L, _, _, h3, rfl, rfl, v, h1, h2⟩)
    (fun m meth c A a g mk v t L k n Y hp _ _ ⟨e1, e2, v', e3, e4⟩ => by cases e3; subst e1 e2; exact ⟨L, e4, rfl, rfl, rfl⟩)
theorem g_callSW (C : Cx p (s0.setVm vm0) m meth c Z own nm code ml ret) {y : MethodName} {bytes : ByteArray} {maxL : Nat} {rt : Option FieldType} {rm : Room} {P : Vm → Prop} {Q : Option Value → Vm → Heap → Prop} {index W : Nat} {argsL : List Value} (Sw : Sn s0 vm0 h) (d : decode code pc = .ok (.invokestatic index, 3)) (w1 : (Cond.methodLink own index y).before a0 Z = true) (w2 : (Cond.static y).before a0 Z = true) (w3 : (Cond.initialized y.cls).before a0 Z = true) (w4 : (Cond.code y bytes maxL rt).before a0 Z = true) (hy : y.cls ≠ "java/lang/invoke/MethodHandle" ∧ y.cls ≠ "java/lang/invoke/VarHandle")
    (M : CtrW l Z y bytes maxL rt rm argsL.toArray h n0 P Q) (hf : rm.frames + 1 ≤ R.frames) (hl : W + (maxL + 11) + rm.locals ≤ R.locals) (hc : k + rm.cells ≤ R.cells) (hs : n + rm.slots ≤ R.slots) (hsz : Ls.size = ml) (hlen : ∀ sig, parseMethodDescriptor y.desc = some sig → argsL.length = sig.parameters.length) (hst : st = argsL.reverse ++ rest) (hW : (rest.map fun v => v.category).sum = W) (hq : pc + 3 = q)
    (hP : ∀ vm1, (s0.setVm vm0).WarmedH vm1 → P vm1) (K : ∀ v vm1 h', Q v vm1 h' → Cx p (s0.setVm vm1) m meth c Z own nm code ml ret → Sn s0 vm1 h' → (s0.setVm vm0).Warmed39 vm1 → ∃ st', st' = v.toList ++ rest ∧ Go p l e R (s0.setVm vm1) m args below meth c Ph n0 h' (k + rm.cells) (n + rm.slots) q Ls st') : Go p l e R (s0.setVm vm0) m args below meth c Ph n0 h k n pc Ls st := fun T locs X N eT => by
  have hZ := C.2.2.2.2.1
  obtain ⟨v, vm1, ⟨T', L', k', n'⟩, -, X', hS1, hle, ⟨L, ⟨hQ, NL⟩, l1, l2, l3⟩, stp⟩ := callSS X C.1 (y := y) C.2.2.2.1 (mvT hZ w1) (mvT hZ w2) (mvT hZ w3) (mvT hZ w4) hy (backOfW (W := W) M hZ w4 w3 hf hl) (g := mkF m pc Ls st) rfl (hsz.trans C.2.2.1.symm) (argsL := argsL) (rest := rest) hlen hst (by show 2 * 0 + _ ≤ _; rw [hW]; omega) (hb C.2.1 d) (fun vm1 hW1 => ⟨rfl, eT, hP vm1 hW1, hc, hs⟩)
  dsimp only [Pt.U, Pt.locs, Pt.cells, Pt.slots] at X' hS1 hle l1 l2 l3 stp
  subst l1 l2 l3
  obtain ⟨k0, hS, hk0⟩ := Sw
  have hZ1 : Z.Warmed39 T'.vm := State.Warmed39.trans (t := s0.setVm vm0) hZ hS1.1
  obtain ⟨st', hst', K'⟩ := K v _ _ hQ ⟨C.1, C.2.1, C.2.2.1, by rw [show (s0.setVm T'.vm).vm = T'.vm from rfl, hS1.1.alike.findClass]; exact C.2.2.2.1, hZ1, C.2.2.2.2.2⟩ ⟨_, foldS (T := T) hS (by rw [eT]; exact hk0) hS1 hle, Nat.le_refl _⟩ hS1.1
  obtain ⟨s₂, v', S, r⟩ := K' _ _ X' (N.app NL) rfl
  exact ⟨s₂, v', stp.trans (by subst hq hst'; exact S), r⟩
theorem g_callIW (C : Cx p (s0.setVm vm0) m meth c Z own nm code ml ret) {y : MethodName} {bytes : ByteArray} {maxL : Nat} {rm : Room} {P : Vm → Prop} {Q : Option Value → Vm → Heap → Prop} {index W : Nat} {argsL : List Value} {a : Addr} (Sw : Sn s0 vm0 h) (d : decode code pc = .ok (.invokespecial index, 3)) (hy1 : y.name = "<init>") (w1 : (Cond.methodLink own index y).before a0 Z = true) (w2 : (Cond.instanceMethod y).before a0 Z = true) (w3 : (Cond.initialized y.cls).before a0 Z = true) (w4 : (Cond.code y bytes maxL none).before a0 Z = true) (hy : y.cls ≠ "java/lang/invoke/MethodHandle" ∧ y.cls ≠ "java/lang/invoke/VarHandle")
    (M : CtrW l Z y bytes maxL none rm (.ref a :: argsL).toArray h n0 P Q) (hf : rm.frames + 1 ≤ R.frames) (hl : W + (maxL + 11) + rm.locals ≤ R.locals) (hc : k + rm.cells ≤ R.cells) (hs : n + rm.slots ≤ R.slots) (hsz : Ls.size = ml) (hlen : ∀ sig, parseMethodDescriptor y.desc = some sig → argsL.length = sig.parameters.length) (hst : st = argsL.reverse ++ .ref a :: rest) (hW : (rest.map fun v => v.category).sum = W) (hq : pc + 3 = q)
    (hP : ∀ vm1, (s0.setVm vm0).WarmedH vm1 → P vm1) (K : ∀ v vm1 h', Q v vm1 h' → Cx p (s0.setVm vm1) m meth c Z own nm code ml ret → Sn s0 vm1 h' → (s0.setVm vm0).Warmed39 vm1 → ∃ st', st' = v.toList ++ rest ∧ Go p l e R (s0.setVm vm1) m args below meth c Ph n0 h' (k + rm.cells) (n + rm.slots) q Ls st') : Go p l e R (s0.setVm vm0) m args below meth c Ph n0 h k n pc Ls st := fun T locs X N eT => by
  have hZ := C.2.2.2.2.1
  obtain ⟨v, vm1, ⟨T', L', k', n'⟩, -, X', hS1, hle, ⟨L, ⟨hQ, NL⟩, l1, l2, l3⟩, stp⟩ := X.specialBackS C.1 (y := y) hy1 C.2.2.2.1 (mvT hZ w1) (mvT hZ w2) (mvT hZ w4) hy (backOfW (W := W) M hZ w4 w3 hf hl) (g := mkF m pc Ls st) rfl (hsz.trans C.2.2.1.symm) (Steps.refl _) (a := a) (argsL := argsL) (rest := rest) hlen hst (by show 2 * 0 + _ ≤ _; rw [hW]; omega) (hb C.2.1 d) (fun vm1 hW1 => ⟨rfl, eT, hP vm1 hW1, hc, hs⟩)
  dsimp only [Pt.U, Pt.locs, Pt.cells, Pt.slots] at X' hS1 hle l1 l2 l3 stp
  subst l1 l2 l3
  obtain ⟨k0, hS, hk0⟩ := Sw
  have hZ1 : Z.Warmed39 T'.vm := State.Warmed39.trans (t := s0.setVm vm0) hZ hS1.1
  obtain ⟨st', hst', K'⟩ := K v _ _ hQ ⟨C.1, C.2.1, C.2.2.1, by rw [show (s0.setVm T'.vm).vm = T'.vm from rfl, hS1.1.alike.findClass]; exact C.2.2.2.1, hZ1, C.2.2.2.2.2⟩ ⟨_, foldS (T := T) hS (by rw [eT]; exact hk0) hS1 hle, Nat.le_refl _⟩ hS1.1
  obtain ⟨s₂, v', S, r⟩ := K' _ _ X' (N.app NL) rfl
  exact ⟨s₂, v', stp.trans (by subst hq hst'; exact S), r⟩
theorem g_callVW (C : Cx p (s0.setVm vm0) m meth c Z own nm code ml ret) {y : MethodName} {bytes : ByteArray} {maxL : Nat} {rt : Option FieldType} {rm : Room} {P : Vm → Prop} {Q : Option Value → Vm → Heap → Prop} {index W : Nat} {argsL : List Value} {y0 : MethodName} {Cl : String} {a : Addr} (Sw : Sn s0 vm0 h) (d : decode code pc = .ok (.invokevirtual index, 3)) (w1 : (Cond.methodLink own index y0).before a0 Z = true) (w2 : (Cond.declares y0).before a0 Z = true) (w5 : (Cond.selects Cl y0 y).before a0 Z = true) (w6 : (Cond.instanceMethod y).before a0 Z = true) (w3 : (Cond.initialized y.cls).before a0 Z = true) (w4 : (Cond.code y bytes maxL rt).before a0 Z = true) (hy : y0.cls ≠ "java/lang/invoke/MethodHandle" ∧ y0.cls ≠ "java/lang/invoke/VarHandle") (hnf : NotFace (s0.setVm vm0) y0)
    (E : Exa Z h a Cl) (M : CtrW l Z y bytes maxL rt rm (.ref a :: argsL).toArray h n0 P Q) (hf : rm.frames + 1 ≤ R.frames) (hl : W + (maxL + 11) + rm.locals ≤ R.locals) (hc : k + rm.cells ≤ R.cells) (hs : n + rm.slots ≤ R.slots) (hsz : Ls.size = ml) (hlen : ∀ sig, parseMethodDescriptor y0.desc = some sig → argsL.length = sig.parameters.length) (hst : st = argsL.reverse ++ .ref a :: rest) (hW : (rest.map fun v => v.category).sum = W) (hq : pc + 3 = q)
    (hP : ∀ vm1, (s0.setVm vm0).WarmedH vm1 → P vm1) (K : ∀ v vm1 h', Q v vm1 h' → Cx p (s0.setVm vm1) m meth c Z own nm code ml ret → Sn s0 vm1 h' → (s0.setVm vm0).Warmed39 vm1 → ∃ st', st' = v.toList ++ rest ∧ Go p l e R (s0.setVm vm1) m args below meth c Ph n0 h' (k + rm.cells) (n + rm.slots) q Ls st') : Go p l e R (s0.setVm vm0) m args below meth c Ph n0 h k n pc Ls st := fun T locs X N eT => by
  have hZ := C.2.2.2.2.1
  obtain ⟨cq, kq, qa, qb, qc⟩ := isOf hZ eT E
  obtain ⟨v, vm1, ⟨T', L', k', n'⟩, -, X', hS1, hle, ⟨L, ⟨hQ, NL⟩, l1, l2, l3⟩, stp⟩ := X.virtualBackS C.1 (y := y0) (z := y) C.2.2.2.1 (mvT hZ w1) (mvT hZ w2) hnf (mvT hZ w5) (mvT hZ w6) hy (backOfW (W := W) M hZ w4 w3 hf hl) qa qc (g := mkF m pc Ls st) rfl (hsz.trans C.2.2.1.symm) (Steps.refl _) (argsL := argsL) (rest := rest) hlen hst (by show 2 * 0 + _ ≤ _; rw [hW]; omega) (hb C.2.1 d) (fun vm1 hW1 => ⟨rfl, eT, hP vm1 hW1, hc, hs⟩)
  dsimp only [Pt.U, Pt.locs, Pt.cells, Pt.slots] at X' hS1 hle l1 l2 l3 stp
  subst l1 l2 l3
  obtain ⟨k0, hS, hk0⟩ := Sw
  have hZ1 : Z.Warmed39 T'.vm := State.Warmed39.trans (t := s0.setVm vm0) hZ hS1.1
  obtain ⟨st', hst', K'⟩ := K v _ _ hQ ⟨C.1, C.2.1, C.2.2.1, by rw [show (s0.setVm T'.vm).vm = T'.vm from rfl, hS1.1.alike.findClass]; exact C.2.2.2.1, hZ1, C.2.2.2.2.2⟩ ⟨_, foldS (T := T) hS (by rw [eT]; exact hk0) hS1 hle, Nat.le_refl _⟩ hS1.1
  obtain ⟨s₂, v', S, r⟩ := K' _ _ X' (N.app NL) rfl
  exact ⟨s₂, v', stp.trans (by subst hq hst'; exact S), r⟩
end GoWide
end Jvm.Pilot.@@N@@

namespace Jvm.Pilot.@@N@@
open Jvm Jvm.ClassFile Sem Op Lib Jvm.Free Jvm.Stand Jvm.LawKit Jvm.RoadKit Bundle Jvm.Pilot.@@N@@.Jvm.D
theorem wd0 {Z : State} {a0 : Array Value} (hw : ∀ d ∈ tables_1, d.before a0 Z = true) : (Jvm.Cond.arrayClass Jvm.ClassFile.FieldType.char).before a0 Z = true := hw _ (List.mem_of_getElem? (i := 0) rfl)
theorem wd1 {Z : State} {a0 : Array Value} (hw : ∀ d ∈ tables_1, d.before a0 Z = true) : (Jvm.Cond.classLink "hornwright/model/VariableIsAnonymousPinLaw" (7 : Nat) "java/lang/String").before a0 Z = true := hw _ (List.mem_of_getElem? (i := 1) rfl)
theorem wd2 {Z : State} {a0 : Array Value} (hw : ∀ d ∈ tables_1, d.before a0 Z = true) : (Jvm.Cond.instantiable "java/lang/String" (4 : Nat)).before a0 Z = true := hw _ (List.mem_of_getElem? (i := 2) rfl)
theorem wd3 {Z : State} {a0 : Array Value} (hw : ∀ d ∈ tables_1, d.before a0 Z = true) : (Jvm.Cond.initialized "java/lang/String").before a0 Z = true := hw _ (List.mem_of_getElem? (i := 3) rfl)
theorem wd4 {Z : State} {a0 : Array Value} (hw : ∀ d ∈ tables_1, d.before a0 Z = true) : (Jvm.Cond.methodLink "hornwright/model/VariableIsAnonymousPinLaw" (9 : Nat) ({ cls := "java/lang/String", name := "<init>", desc := "([C)V" } : Jvm.MethodName)).before a0 Z = true := hw _ (List.mem_of_getElem? (i := 4) rfl)
theorem wd5 {Z : State} {a0 : Array Value} (hw : ∀ d ∈ tables_1, d.before a0 Z = true) : (Jvm.Cond.instanceMethod ({ cls := "java/lang/String", name := "<init>", desc := "([C)V" } : Jvm.MethodName)).before a0 Z = true := hw _ (List.mem_of_getElem? (i := 5) rfl)
theorem wd6 {Z : State} {a0 : Array Value} (hw : ∀ d ∈ tables_1, d.before a0 Z = true) : (Jvm.Cond.code ({ cls := "java/lang/String", name := "<init>", desc := "([C)V" } : Jvm.MethodName) jdk_42_method_3_code (2 : Nat) (Option.none : Option Jvm.ClassFile.FieldType)).before a0 Z = true := hw _ (List.mem_of_getElem? (i := 6) rfl)
theorem wd12 {Z : State} {a0 : Array Value} (hw : ∀ d ∈ tables_1, d.before a0 Z = true) : (Jvm.Cond.instanceMethod ({ cls := "java/lang/Object", name := "<init>", desc := "()V" } : Jvm.MethodName)).before a0 Z = true := hw _ (List.mem_of_getElem? (i := 12) rfl)
theorem wd13 {Z : State} {a0 : Array Value} (hw : ∀ d ∈ tables_1, d.before a0 Z = true) : (Jvm.Cond.code ({ cls := "java/lang/Object", name := "<init>", desc := "()V" } : Jvm.MethodName) object_method_1_code (1 : Nat) (Option.none : Option Jvm.ClassFile.FieldType)).before a0 Z = true := hw _ (List.mem_of_getElem? (i := 13) rfl)
theorem wd27 {Z : State} {a0 : Array Value} (hw : ∀ d ∈ tables_1, d.before a0 Z = true) : (Jvm.Cond.laysFinal "java/lang/String" "java/lang/String" "coder" "B").before a0 Z = true := hw _ (List.mem_of_getElem? (i := 27) rfl)
theorem wd29 {Z : State} {a0 : Array Value} (hw : ∀ d ∈ tables_1, d.before a0 Z = true) : (Jvm.Cond.laysFinal "java/lang/String" "java/lang/String" "value" "[B").before a0 Z = true := hw _ (List.mem_of_getElem? (i := 29) rfl)
theorem wd30 {Z : State} {a0 : Array Value} (hw : ∀ d ∈ tables_1, d.before a0 Z = true) : (Jvm.Cond.classLink "hornwright/model/VariableIsAnonymousPinLaw" (12 : Nat) "hornwright/model/Variable").before a0 Z = true := hw _ (List.mem_of_getElem? (i := 30) rfl)
theorem wd31 {Z : State} {a0 : Array Value} (hw : ∀ d ∈ tables_1, d.before a0 Z = true) : (Jvm.Cond.instantiable "hornwright/model/Variable" (2 : Nat)).before a0 Z = true := hw _ (List.mem_of_getElem? (i := 31) rfl)
theorem wd32 {Z : State} {a0 : Array Value} (hw : ∀ d ∈ tables_1, d.before a0 Z = true) : (Jvm.Cond.initialized "hornwright/model/Variable").before a0 Z = true := hw _ (List.mem_of_getElem? (i := 32) rfl)
theorem wd33 {Z : State} {a0 : Array Value} (hw : ∀ d ∈ tables_1, d.before a0 Z = true) : (Jvm.Cond.methodLink "hornwright/model/VariableIsAnonymousPinLaw" (14 : Nat) ({ cls := "hornwright/model/Variable", name := "<init>", desc := "(Ljava/lang/String;I)V" } : Jvm.MethodName)).before a0 Z = true := hw _ (List.mem_of_getElem? (i := 33) rfl)
theorem wd34 {Z : State} {a0 : Array Value} (hw : ∀ d ∈ tables_1, d.before a0 Z = true) : (Jvm.Cond.instanceMethod ({ cls := "hornwright/model/Variable", name := "<init>", desc := "(Ljava/lang/String;I)V" } : Jvm.MethodName)).before a0 Z = true := hw _ (List.mem_of_getElem? (i := 34) rfl)
theorem wd35 {Z : State} {a0 : Array Value} (hw : ∀ d ∈ tables_1, d.before a0 Z = true) : (Jvm.Cond.code ({ cls := "hornwright/model/Variable", name := "<init>", desc := "(Ljava/lang/String;I)V" } : Jvm.MethodName) prog_53_method_1_code (3 : Nat) (Option.none : Option Jvm.ClassFile.FieldType)).before a0 Z = true := hw _ (List.mem_of_getElem? (i := 35) rfl)
theorem wd36 {Z : State} {a0 : Array Value} (hw : ∀ d ∈ tables_1, d.before a0 Z = true) : (Jvm.Cond.methodLink "hornwright/model/Variable" (1 : Nat) ({ cls := "java/lang/Record", name := "<init>", desc := "()V" } : Jvm.MethodName)).before a0 Z = true := hw _ (List.mem_of_getElem? (i := 36) rfl)
theorem wd37 {Z : State} {a0 : Array Value} (hw : ∀ d ∈ tables_1, d.before a0 Z = true) : (Jvm.Cond.instanceMethod ({ cls := "java/lang/Record", name := "<init>", desc := "()V" } : Jvm.MethodName)).before a0 Z = true := hw _ (List.mem_of_getElem? (i := 37) rfl)
theorem wd39 {Z : State} {a0 : Array Value} (hw : ∀ d ∈ tables_1, d.before a0 Z = true) : (Jvm.Cond.initialized "java/lang/Record").before a0 Z = true := hw _ (List.mem_of_getElem? (i := 39) rfl)
theorem wd40 {Z : State} {a0 : Array Value} (hw : ∀ d ∈ tables_1, d.before a0 Z = true) : (Jvm.Cond.code ({ cls := "java/lang/Record", name := "<init>", desc := "()V" } : Jvm.MethodName) jdk_30_method_1_code (1 : Nat) (Option.none : Option Jvm.ClassFile.FieldType)).before a0 Z = true := hw _ (List.mem_of_getElem? (i := 40) rfl)
theorem wd41 {Z : State} {a0 : Array Value} (hw : ∀ d ∈ tables_1, d.before a0 Z = true) : (Jvm.Cond.methodLink "java/lang/Record" (1 : Nat) ({ cls := "java/lang/Object", name := "<init>", desc := "()V" } : Jvm.MethodName)).before a0 Z = true := hw _ (List.mem_of_getElem? (i := 41) rfl)
theorem wd42 {Z : State} {a0 : Array Value} (hw : ∀ d ∈ tables_1, d.before a0 Z = true) : (Jvm.Cond.fieldLink "hornwright/model/Variable" (7 : Nat) "hornwright/model/Variable" "name" "Ljava/lang/String;").before a0 Z = true := hw _ (List.mem_of_getElem? (i := 42) rfl)
theorem wd43 {Z : State} {a0 : Array Value} (hw : ∀ d ∈ tables_1, d.before a0 Z = true) : (Jvm.Cond.laysFinal "hornwright/model/Variable" "hornwright/model/Variable" "name" "Ljava/lang/String;").before a0 Z = true := hw _ (List.mem_of_getElem? (i := 43) rfl)
theorem wd44 {Z : State} {a0 : Array Value} (hw : ∀ d ∈ tables_1, d.before a0 Z = true) : (Jvm.Cond.fieldLink "hornwright/model/Variable" (13 : Nat) "hornwright/model/Variable" "anonymous" "I").before a0 Z = true := hw _ (List.mem_of_getElem? (i := 44) rfl)
theorem wd45 {Z : State} {a0 : Array Value} (hw : ∀ d ∈ tables_1, d.before a0 Z = true) : (Jvm.Cond.laysFinal "hornwright/model/Variable" "hornwright/model/Variable" "anonymous" "I").before a0 Z = true := hw _ (List.mem_of_getElem? (i := 45) rfl)
theorem wd46 {Z : State} {a0 : Array Value} (hw : ∀ d ∈ tables_1, d.before a0 Z = true) : (Jvm.Cond.methodLink "hornwright/model/VariableIsAnonymousPinLaw" (17 : Nat) ({ cls := "hornwright/model/Variable", name := "isAnonymous", desc := "()Z" } : Jvm.MethodName)).before a0 Z = true := hw _ (List.mem_of_getElem? (i := 46) rfl)
theorem wd47 {Z : State} {a0 : Array Value} (hw : ∀ d ∈ tables_1, d.before a0 Z = true) : (Jvm.Cond.declares ({ cls := "hornwright/model/Variable", name := "isAnonymous", desc := "()Z" } : Jvm.MethodName)).before a0 Z = true := hw _ (List.mem_of_getElem? (i := 47) rfl)
theorem wd48 {Z : State} {a0 : Array Value} (hw : ∀ d ∈ tables_1, d.before a0 Z = true) : (Jvm.Cond.instanceMethod ({ cls := "hornwright/model/Variable", name := "isAnonymous", desc := "()Z" } : Jvm.MethodName)).before a0 Z = true := hw _ (List.mem_of_getElem? (i := 48) rfl)
theorem wd49 {Z : State} {a0 : Array Value} (hw : ∀ d ∈ tables_1, d.before a0 Z = true) : (Jvm.Cond.selects "hornwright/model/Variable" ({ cls := "hornwright/model/Variable", name := "isAnonymous", desc := "()Z" } : Jvm.MethodName) ({ cls := "hornwright/model/Variable", name := "isAnonymous", desc := "()Z" } : Jvm.MethodName)).before a0 Z = true := hw _ (List.mem_of_getElem? (i := 49) rfl)
theorem wd50 {Z : State} {a0 : Array Value} (hw : ∀ d ∈ tables_1, d.before a0 Z = true) : (Jvm.Cond.code ({ cls := "hornwright/model/Variable", name := "isAnonymous", desc := "()Z" } : Jvm.MethodName) prog_53_method_4_code (1 : Nat) (Option.some Jvm.ClassFile.FieldType.boolean)).before a0 Z = true := hw _ (List.mem_of_getElem? (i := 50) rfl)
theorem wd51 {Z : State} {a0 : Array Value} (hw : ∀ d ∈ tables_1, d.before a0 Z = true) : (Jvm.Cond.methodLink "hornwright/model/VariableIsAnonymousPinLaw" (21 : Nat) ({ cls := "hornwright/model/Variable", name := "named", desc := "(Ljava/lang/String;)Lhornwright/model/Variable;" } : Jvm.MethodName)).before a0 Z = true := hw _ (List.mem_of_getElem? (i := 51) rfl)
theorem wd52 {Z : State} {a0 : Array Value} (hw : ∀ d ∈ tables_1, d.before a0 Z = true) : (Jvm.Cond.static ({ cls := "hornwright/model/Variable", name := "named", desc := "(Ljava/lang/String;)Lhornwright/model/Variable;" } : Jvm.MethodName)).before a0 Z = true := hw _ (List.mem_of_getElem? (i := 52) rfl)
theorem wd53 {Z : State} {a0 : Array Value} (hw : ∀ d ∈ tables_1, d.before a0 Z = true) : (Jvm.Cond.code ({ cls := "hornwright/model/Variable", name := "named", desc := "(Ljava/lang/String;)Lhornwright/model/Variable;" } : Jvm.MethodName) prog_53_method_2_code (1 : Nat) (Option.some (Jvm.ClassFile.FieldType.object "hornwright/model/Variable"))).before a0 Z = true := hw _ (List.mem_of_getElem? (i := 53) rfl)
theorem wd54 {Z : State} {a0 : Array Value} (hw : ∀ d ∈ tables_1, d.before a0 Z = true) : (Jvm.Cond.classLink "hornwright/model/Variable" (8 : Nat) "hornwright/model/Variable").before a0 Z = true := hw _ (List.mem_of_getElem? (i := 54) rfl)
theorem wd55 {Z : State} {a0 : Array Value} (hw : ∀ d ∈ tables_1, d.before a0 Z = true) : (Jvm.Cond.methodLink "hornwright/model/Variable" (17 : Nat) ({ cls := "hornwright/model/Variable", name := "<init>", desc := "(Ljava/lang/String;I)V" } : Jvm.MethodName)).before a0 Z = true := hw _ (List.mem_of_getElem? (i := 55) rfl)
theorem wd56 {Z : State} {a0 : Array Value} (hw : ∀ d ∈ tables_1, d.before a0 Z = true) : (Jvm.Cond.methodLink "hornwright/model/VariableIsAnonymousPinLaw" (25 : Nat) ({ cls := "hornwright/model/Variable", name := "onlyAt", desc := "(IILhornwright/model/Variable;)Ljava/util/List;" } : Jvm.MethodName)).before a0 Z = true := hw _ (List.mem_of_getElem? (i := 56) rfl)
theorem wd57 {Z : State} {a0 : Array Value} (hw : ∀ d ∈ tables_1, d.before a0 Z = true) : (Jvm.Cond.static ({ cls := "hornwright/model/Variable", name := "onlyAt", desc := "(IILhornwright/model/Variable;)Ljava/util/List;" } : Jvm.MethodName)).before a0 Z = true := hw _ (List.mem_of_getElem? (i := 57) rfl)
theorem wd58 {Z : State} {a0 : Array Value} (hw : ∀ d ∈ tables_1, d.before a0 Z = true) : (Jvm.Cond.code ({ cls := "hornwright/model/Variable", name := "onlyAt", desc := "(IILhornwright/model/Variable;)Ljava/util/List;" } : Jvm.MethodName) prog_53_method_3_code (6 : Nat) (Option.some (Jvm.ClassFile.FieldType.object "java/util/List"))).before a0 Z = true := hw _ (List.mem_of_getElem? (i := 58) rfl)
theorem wd59 {Z : State} {a0 : Array Value} (hw : ∀ d ∈ tables_1, d.before a0 Z = true) : (Jvm.Cond.classLink "hornwright/model/Variable" (20 : Nat) "java/util/ArrayList").before a0 Z = true := hw _ (List.mem_of_getElem? (i := 59) rfl)
theorem wd60 {Z : State} {a0 : Array Value} (hw : ∀ d ∈ tables_1, d.before a0 Z = true) : (Jvm.Cond.instantiable "java/util/ArrayList" (3 : Nat)).before a0 Z = true := hw _ (List.mem_of_getElem? (i := 60) rfl)
theorem wd61 {Z : State} {a0 : Array Value} (hw : ∀ d ∈ tables_1, d.before a0 Z = true) : (Jvm.Cond.initialized "java/util/ArrayList").before a0 Z = true := hw _ (List.mem_of_getElem? (i := 61) rfl)
theorem wd62 {Z : State} {a0 : Array Value} (hw : ∀ d ∈ tables_1, d.before a0 Z = true) : (Jvm.Cond.methodLink "hornwright/model/Variable" (22 : Nat) ({ cls := "java/util/ArrayList", name := "<init>", desc := "()V" } : Jvm.MethodName)).before a0 Z = true := hw _ (List.mem_of_getElem? (i := 62) rfl)
theorem wd63 {Z : State} {a0 : Array Value} (hw : ∀ d ∈ tables_1, d.before a0 Z = true) : (Jvm.Cond.instanceMethod ({ cls := "java/util/ArrayList", name := "<init>", desc := "()V" } : Jvm.MethodName)).before a0 Z = true := hw _ (List.mem_of_getElem? (i := 63) rfl)
theorem wd64 {Z : State} {a0 : Array Value} (hw : ∀ d ∈ tables_1, d.before a0 Z = true) : (Jvm.Cond.code ({ cls := "java/util/ArrayList", name := "<init>", desc := "()V" } : Jvm.MethodName) jdk_38_method_2_code (1 : Nat) (Option.none : Option Jvm.ClassFile.FieldType)).before a0 Z = true := hw _ (List.mem_of_getElem? (i := 64) rfl)
theorem wd65 {Z : State} {a0 : Array Value} (hw : ∀ d ∈ tables_1, d.before a0 Z = true) : (Jvm.Cond.methodLink "java/util/ArrayList" (1 : Nat) ({ cls := "java/util/AbstractList", name := "<init>", desc := "()V" } : Jvm.MethodName)).before a0 Z = true := hw _ (List.mem_of_getElem? (i := 65) rfl)
theorem wd66 {Z : State} {a0 : Array Value} (hw : ∀ d ∈ tables_1, d.before a0 Z = true) : (Jvm.Cond.instanceMethod ({ cls := "java/util/AbstractList", name := "<init>", desc := "()V" } : Jvm.MethodName)).before a0 Z = true := hw _ (List.mem_of_getElem? (i := 66) rfl)
theorem wd69 {Z : State} {a0 : Array Value} (hw : ∀ d ∈ tables_1, d.before a0 Z = true) : (Jvm.Cond.initialized "java/util/AbstractList").before a0 Z = true := hw _ (List.mem_of_getElem? (i := 69) rfl)
theorem wd70 {Z : State} {a0 : Array Value} (hw : ∀ d ∈ tables_1, d.before a0 Z = true) : (Jvm.Cond.code ({ cls := "java/util/AbstractList", name := "<init>", desc := "()V" } : Jvm.MethodName) jdk_39_method_1_code (1 : Nat) (Option.none : Option Jvm.ClassFile.FieldType)).before a0 Z = true := hw _ (List.mem_of_getElem? (i := 70) rfl)
theorem wd71 {Z : State} {a0 : Array Value} (hw : ∀ d ∈ tables_1, d.before a0 Z = true) : (Jvm.Cond.methodLink "java/util/AbstractList" (1 : Nat) ({ cls := "java/util/AbstractCollection", name := "<init>", desc := "()V" } : Jvm.MethodName)).before a0 Z = true := hw _ (List.mem_of_getElem? (i := 71) rfl)
theorem wd72 {Z : State} {a0 : Array Value} (hw : ∀ d ∈ tables_1, d.before a0 Z = true) : (Jvm.Cond.instanceMethod ({ cls := "java/util/AbstractCollection", name := "<init>", desc := "()V" } : Jvm.MethodName)).before a0 Z = true := hw _ (List.mem_of_getElem? (i := 72) rfl)
theorem wd75 {Z : State} {a0 : Array Value} (hw : ∀ d ∈ tables_1, d.before a0 Z = true) : (Jvm.Cond.initialized "java/util/AbstractCollection").before a0 Z = true := hw _ (List.mem_of_getElem? (i := 75) rfl)
theorem wd76 {Z : State} {a0 : Array Value} (hw : ∀ d ∈ tables_1, d.before a0 Z = true) : (Jvm.Cond.code ({ cls := "java/util/AbstractCollection", name := "<init>", desc := "()V" } : Jvm.MethodName) jdk_22_method_1_code (1 : Nat) (Option.none : Option Jvm.ClassFile.FieldType)).before a0 Z = true := hw _ (List.mem_of_getElem? (i := 76) rfl)
theorem wd77 {Z : State} {a0 : Array Value} (hw : ∀ d ∈ tables_1, d.before a0 Z = true) : (Jvm.Cond.methodLink "java/util/AbstractCollection" (1 : Nat) ({ cls := "java/lang/Object", name := "<init>", desc := "()V" } : Jvm.MethodName)).before a0 Z = true := hw _ (List.mem_of_getElem? (i := 77) rfl)
theorem wd78 {Z : State} {a0 : Array Value} (hw : ∀ d ∈ tables_1, d.before a0 Z = true) : (Jvm.Cond.fieldLink "java/util/AbstractList" (7 : Nat) "java/util/AbstractList" "modCount" "I").before a0 Z = true := hw _ (List.mem_of_getElem? (i := 78) rfl)
theorem wd79 {Z : State} {a0 : Array Value} (hw : ∀ d ∈ tables_1, d.before a0 Z = true) : (Jvm.Cond.lays "java/util/ArrayList" "java/util/AbstractList" "modCount" "I").before a0 Z = true := hw _ (List.mem_of_getElem? (i := 79) rfl)
theorem wd80 {Z : State} {a0 : Array Value} (hw : ∀ d ∈ tables_1, d.before a0 Z = true) : (Jvm.Cond.fieldLink "java/util/ArrayList" (39 : Nat) "java/util/ArrayList" "DEFAULTCAPACITY_EMPTY_ELEMENTDATA" "[Ljava/lang/Object;").before a0 Z = true := hw _ (List.mem_of_getElem? (i := 80) rfl)
theorem wd81 {Z : State} {a0 : Array Value} (hw : ∀ d ∈ tables_1, d.before a0 Z = true) : (Jvm.Cond.fieldLink "java/util/ArrayList" (9 : Nat) "java/util/ArrayList" "elementData" "[Ljava/lang/Object;").before a0 Z = true := hw _ (List.mem_of_getElem? (i := 81) rfl)
theorem wd82 {Z : State} {a0 : Array Value} (hw : ∀ d ∈ tables_1, d.before a0 Z = true) : (Jvm.Cond.lays "java/util/ArrayList" "java/util/ArrayList" "elementData" "[Ljava/lang/Object;").before a0 Z = true := hw _ (List.mem_of_getElem? (i := 82) rfl)
theorem wd83 {Z : State} {a0 : Array Value} (hw : ∀ d ∈ tables_1, d.before a0 Z = true) : (Jvm.Cond.stringLink "hornwright/model/Variable" (23 : Nat) "_").before a0 Z = true := hw _ (List.mem_of_getElem? (i := 83) rfl)
theorem wd86 {Z : State} {a0 : Array Value} (hw : ∀ d ∈ tables_1, d.before a0 Z = true) : (Jvm.Cond.methodLink "hornwright/model/Variable" (25 : Nat) ({ cls := "java/util/List", name := "add", desc := "(Ljava/lang/Object;)Z" } : Jvm.MethodName)).before a0 Z = true := hw _ (List.mem_of_getElem? (i := 86) rfl)
theorem wd87 {Z : State} {a0 : Array Value} (hw : ∀ d ∈ tables_1, d.before a0 Z = true) : (Jvm.Cond.declares ({ cls := "java/util/List", name := "add", desc := "(Ljava/lang/Object;)Z" } : Jvm.MethodName)).before a0 Z = true := hw _ (List.mem_of_getElem? (i := 87) rfl)
theorem wd88 {Z : State} {a0 : Array Value} (hw : ∀ d ∈ tables_1, d.before a0 Z = true) : (Jvm.Cond.interfaceMethod "java/util/List" "java/util/List" "add" "(Ljava/lang/Object;)Z").before a0 Z = true := hw _ (List.mem_of_getElem? (i := 88) rfl)
theorem wd89 {Z : State} {a0 : Array Value} (hw : ∀ d ∈ tables_1, d.before a0 Z = true) : (Jvm.Cond.selects "java/util/ArrayList" ({ cls := "java/util/List", name := "add", desc := "(Ljava/lang/Object;)Z" } : Jvm.MethodName) ({ cls := "java/util/ArrayList", name := "add", desc := "(Ljava/lang/Object;)Z" } : Jvm.MethodName)).before a0 Z = true := hw _ (List.mem_of_getElem? (i := 89) rfl)
theorem wd90 {Z : State} {a0 : Array Value} (hw : ∀ d ∈ tables_1, d.before a0 Z = true) : (Jvm.Cond.instanceMethod ({ cls := "java/util/ArrayList", name := "add", desc := "(Ljava/lang/Object;)Z" } : Jvm.MethodName)).before a0 Z = true := hw _ (List.mem_of_getElem? (i := 90) rfl)
theorem wd91 {Z : State} {a0 : Array Value} (hw : ∀ d ∈ tables_1, d.before a0 Z = true) : (Jvm.Cond.publicMethod ({ cls := "java/util/ArrayList", name := "add", desc := "(Ljava/lang/Object;)Z" } : Jvm.MethodName)).before a0 Z = true := hw _ (List.mem_of_getElem? (i := 91) rfl)
theorem wd92 {Z : State} {a0 : Array Value} (hw : ∀ d ∈ tables_1, d.before a0 Z = true) : (Jvm.Cond.unhidden "java/util/ArrayList" "add" "(Ljava/lang/Object;)Z").before a0 Z = true := hw _ (List.mem_of_getElem? (i := 92) rfl)
theorem wd93 {Z : State} {a0 : Array Value} (hw : ∀ d ∈ tables_1, d.before a0 Z = true) : (Jvm.Cond.castable "java/util/ArrayList" "java/util/List").before a0 Z = true := hw _ (List.mem_of_getElem? (i := 93) rfl)
theorem wd94 {Z : State} {a0 : Array Value} (hw : ∀ d ∈ tables_1, d.before a0 Z = true) : (Jvm.Cond.code ({ cls := "java/util/ArrayList", name := "add", desc := "(Ljava/lang/Object;)Z" } : Jvm.MethodName) jdk_38_method_25_code (2 : Nat) (Option.some Jvm.ClassFile.FieldType.boolean)).before a0 Z = true := hw _ (List.mem_of_getElem? (i := 94) rfl)
theorem wd95 {Z : State} {a0 : Array Value} (hw : ∀ d ∈ tables_1, d.before a0 Z = true) : (Jvm.Cond.fieldLink "java/util/ArrayList" (63 : Nat) "java/util/ArrayList" "modCount" "I").before a0 Z = true := hw _ (List.mem_of_getElem? (i := 95) rfl)
theorem wd96 {Z : State} {a0 : Array Value} (hw : ∀ d ∈ tables_1, d.before a0 Z = true) : (Jvm.Cond.sameField "java/util/ArrayList" "java/util/AbstractList" "modCount" "I").before a0 Z = true := hw _ (List.mem_of_getElem? (i := 96) rfl)
theorem wd97 {Z : State} {a0 : Array Value} (hw : ∀ d ∈ tables_1, d.before a0 Z = true) : (Jvm.Cond.fieldLink "java/util/ArrayList" (48 : Nat) "java/util/ArrayList" "size" "I").before a0 Z = true := hw _ (List.mem_of_getElem? (i := 97) rfl)
theorem wd98 {Z : State} {a0 : Array Value} (hw : ∀ d ∈ tables_1, d.before a0 Z = true) : (Jvm.Cond.lays "java/util/ArrayList" "java/util/ArrayList" "size" "I").before a0 Z = true := hw _ (List.mem_of_getElem? (i := 98) rfl)
theorem wd99 {Z : State} {a0 : Array Value} (hw : ∀ d ∈ tables_1, d.before a0 Z = true) : (Jvm.Cond.methodLink "java/util/ArrayList" (131 : Nat) ({ cls := "java/util/ArrayList", name := "add", desc := "(Ljava/lang/Object;[Ljava/lang/Object;I)V" } : Jvm.MethodName)).before a0 Z = true := hw _ (List.mem_of_getElem? (i := 99) rfl)
theorem wd100 {Z : State} {a0 : Array Value} (hw : ∀ d ∈ tables_1, d.before a0 Z = true) : (Jvm.Cond.instanceMethod ({ cls := "java/util/ArrayList", name := "add", desc := "(Ljava/lang/Object;[Ljava/lang/Object;I)V" } : Jvm.MethodName)).before a0 Z = true := hw _ (List.mem_of_getElem? (i := 100) rfl)
theorem wd101 {Z : State} {a0 : Array Value} (hw : ∀ d ∈ tables_1, d.before a0 Z = true) : (Jvm.Cond.privateMethod ({ cls := "java/util/ArrayList", name := "add", desc := "(Ljava/lang/Object;[Ljava/lang/Object;I)V" } : Jvm.MethodName)).before a0 Z = true := hw _ (List.mem_of_getElem? (i := 101) rfl)
theorem wd103 {Z : State} {a0 : Array Value} (hw : ∀ d ∈ tables_1, d.before a0 Z = true) : (Jvm.Cond.code ({ cls := "java/util/ArrayList", name := "add", desc := "(Ljava/lang/Object;[Ljava/lang/Object;I)V" } : Jvm.MethodName) jdk_38_method_24_code (4 : Nat) (Option.none : Option Jvm.ClassFile.FieldType)).before a0 Z = true := hw _ (List.mem_of_getElem? (i := 103) rfl)
theorem wd104 {Z : State} {a0 : Array Value} (hw : ∀ d ∈ tables_1, d.before a0 Z = true) : (Jvm.Cond.methodLink "java/util/ArrayList" (129 : Nat) ({ cls := "java/util/ArrayList", name := "grow", desc := "()[Ljava/lang/Object;" } : Jvm.MethodName)).before a0 Z = true := hw _ (List.mem_of_getElem? (i := 104) rfl)
theorem wd105 {Z : State} {a0 : Array Value} (hw : ∀ d ∈ tables_1, d.before a0 Z = true) : (Jvm.Cond.instanceMethod ({ cls := "java/util/ArrayList", name := "grow", desc := "()[Ljava/lang/Object;" } : Jvm.MethodName)).before a0 Z = true := hw _ (List.mem_of_getElem? (i := 105) rfl)
theorem wd106 {Z : State} {a0 : Array Value} (hw : ∀ d ∈ tables_1, d.before a0 Z = true) : (Jvm.Cond.privateMethod ({ cls := "java/util/ArrayList", name := "grow", desc := "()[Ljava/lang/Object;" } : Jvm.MethodName)).before a0 Z = true := hw _ (List.mem_of_getElem? (i := 106) rfl)
theorem wd108 {Z : State} {a0 : Array Value} (hw : ∀ d ∈ tables_1, d.before a0 Z = true) : (Jvm.Cond.code ({ cls := "java/util/ArrayList", name := "grow", desc := "()[Ljava/lang/Object;" } : Jvm.MethodName) jdk_38_method_7_code (1 : Nat) (Option.some (Jvm.ClassFile.FieldType.array (Jvm.ClassFile.FieldType.object "java/lang/Object")))).before a0 Z = true := hw _ (List.mem_of_getElem? (i := 108) rfl)
theorem wd109 {Z : State} {a0 : Array Value} (hw : ∀ d ∈ tables_1, d.before a0 Z = true) : (Jvm.Cond.methodLink "java/util/ArrayList" (69 : Nat) ({ cls := "java/util/ArrayList", name := "grow", desc := "(I)[Ljava/lang/Object;" } : Jvm.MethodName)).before a0 Z = true := hw _ (List.mem_of_getElem? (i := 109) rfl)
theorem wd110 {Z : State} {a0 : Array Value} (hw : ∀ d ∈ tables_1, d.before a0 Z = true) : (Jvm.Cond.instanceMethod ({ cls := "java/util/ArrayList", name := "grow", desc := "(I)[Ljava/lang/Object;" } : Jvm.MethodName)).before a0 Z = true := hw _ (List.mem_of_getElem? (i := 110) rfl)
theorem wd111 {Z : State} {a0 : Array Value} (hw : ∀ d ∈ tables_1, d.before a0 Z = true) : (Jvm.Cond.privateMethod ({ cls := "java/util/ArrayList", name := "grow", desc := "(I)[Ljava/lang/Object;" } : Jvm.MethodName)).before a0 Z = true := hw _ (List.mem_of_getElem? (i := 111) rfl)
theorem wd113 {Z : State} {a0 : Array Value} (hw : ∀ d ∈ tables_1, d.before a0 Z = true) : (Jvm.Cond.code ({ cls := "java/util/ArrayList", name := "grow", desc := "(I)[Ljava/lang/Object;" } : Jvm.MethodName) jdk_38_method_6_code (4 : Nat) (Option.some (Jvm.ClassFile.FieldType.array (Jvm.ClassFile.FieldType.object "java/lang/Object")))).before a0 Z = true := hw _ (List.mem_of_getElem? (i := 113) rfl)
theorem wd114 {Z : State} {a0 : Array Value} (hw : ∀ d ∈ tables_1, d.before a0 Z = true) : (Jvm.Cond.methodLink "java/util/ArrayList" (79 : Nat) ({ cls := "java/lang/Math", name := "max", desc := "(II)I" } : Jvm.MethodName)).before a0 Z = true := hw _ (List.mem_of_getElem? (i := 114) rfl)
theorem wd115 {Z : State} {a0 : Array Value} (hw : ∀ d ∈ tables_1, d.before a0 Z = true) : (Jvm.Cond.static ({ cls := "java/lang/Math", name := "max", desc := "(II)I" } : Jvm.MethodName)).before a0 Z = true := hw _ (List.mem_of_getElem? (i := 115) rfl)
theorem wd116 {Z : State} {a0 : Array Value} (hw : ∀ d ∈ tables_1, d.before a0 Z = true) : (Jvm.Cond.initialized "java/lang/Math").before a0 Z = true := hw _ (List.mem_of_getElem? (i := 116) rfl)
theorem wd117 {Z : State} {a0 : Array Value} (hw : ∀ d ∈ tables_1, d.before a0 Z = true) : (Jvm.Cond.code ({ cls := "java/lang/Math", name := "max", desc := "(II)I" } : Jvm.MethodName) jdk_29_method_65_code (2 : Nat) (Option.some Jvm.ClassFile.FieldType.int)).before a0 Z = true := hw _ (List.mem_of_getElem? (i := 117) rfl)
theorem wd118 {Z : State} {a0 : Array Value} (hw : ∀ d ∈ tables_1, d.before a0 Z = true) : (Jvm.Cond.classLink "java/util/ArrayList" (7 : Nat) "java/lang/Object").before a0 Z = true := hw _ (List.mem_of_getElem? (i := 118) rfl)
theorem wd119 {Z : State} {a0 : Array Value} (hw : ∀ d ∈ tables_1, d.before a0 Z = true) : (Jvm.Cond.arrayOver (Jvm.ClassFile.FieldType.object "java/lang/Object")).before a0 Z = true := hw _ (List.mem_of_getElem? (i := 119) rfl)
theorem wd120 {Z : State} {a0 : Array Value} (hw : ∀ d ∈ tables_1, d.before a0 Z = true) : (Jvm.Cond.castable "hornwright/model/Variable" "java/lang/Object").before a0 Z = true := hw _ (List.mem_of_getElem? (i := 120) rfl)
theorem wd121 {Z : State} {a0 : Array Value} (hw : ∀ d ∈ tables_1, d.before a0 Z = true) : (Jvm.Cond.methodLink "hornwright/model/VariableIsAnonymousPinLaw" (29 : Nat) ({ cls := "java/util/List", name := "get", desc := "(I)Ljava/lang/Object;" } : Jvm.MethodName)).before a0 Z = true := hw _ (List.mem_of_getElem? (i := 121) rfl)
theorem wd122 {Z : State} {a0 : Array Value} (hw : ∀ d ∈ tables_1, d.before a0 Z = true) : (Jvm.Cond.declares ({ cls := "java/util/List", name := "get", desc := "(I)Ljava/lang/Object;" } : Jvm.MethodName)).before a0 Z = true := hw _ (List.mem_of_getElem? (i := 122) rfl)
theorem wd123 {Z : State} {a0 : Array Value} (hw : ∀ d ∈ tables_1, d.before a0 Z = true) : (Jvm.Cond.interfaceMethod "java/util/List" "java/util/List" "get" "(I)Ljava/lang/Object;").before a0 Z = true := hw _ (List.mem_of_getElem? (i := 123) rfl)
theorem wd124 {Z : State} {a0 : Array Value} (hw : ∀ d ∈ tables_1, d.before a0 Z = true) : (Jvm.Cond.selects "java/util/ArrayList" ({ cls := "java/util/List", name := "get", desc := "(I)Ljava/lang/Object;" } : Jvm.MethodName) ({ cls := "java/util/ArrayList", name := "get", desc := "(I)Ljava/lang/Object;" } : Jvm.MethodName)).before a0 Z = true := hw _ (List.mem_of_getElem? (i := 124) rfl)
theorem wd125 {Z : State} {a0 : Array Value} (hw : ∀ d ∈ tables_1, d.before a0 Z = true) : (Jvm.Cond.instanceMethod ({ cls := "java/util/ArrayList", name := "get", desc := "(I)Ljava/lang/Object;" } : Jvm.MethodName)).before a0 Z = true := hw _ (List.mem_of_getElem? (i := 125) rfl)
theorem wd126 {Z : State} {a0 : Array Value} (hw : ∀ d ∈ tables_1, d.before a0 Z = true) : (Jvm.Cond.publicMethod ({ cls := "java/util/ArrayList", name := "get", desc := "(I)Ljava/lang/Object;" } : Jvm.MethodName)).before a0 Z = true := hw _ (List.mem_of_getElem? (i := 126) rfl)
theorem wd127 {Z : State} {a0 : Array Value} (hw : ∀ d ∈ tables_1, d.before a0 Z = true) : (Jvm.Cond.unhidden "java/util/ArrayList" "get" "(I)Ljava/lang/Object;").before a0 Z = true := hw _ (List.mem_of_getElem? (i := 127) rfl)
theorem wd128 {Z : State} {a0 : Array Value} (hw : ∀ d ∈ tables_1, d.before a0 Z = true) : (Jvm.Cond.code ({ cls := "java/util/ArrayList", name := "get", desc := "(I)Ljava/lang/Object;" } : Jvm.MethodName) jdk_38_method_20_code (2 : Nat) (Option.some (Jvm.ClassFile.FieldType.object "java/lang/Object"))).before a0 Z = true := hw _ (List.mem_of_getElem? (i := 128) rfl)
theorem wd129 {Z : State} {a0 : Array Value} (hw : ∀ d ∈ tables_1, d.before a0 Z = true) : (Jvm.Cond.methodLink "java/util/ArrayList" (118 : Nat) ({ cls := "java/util/Objects", name := "checkIndex", desc := "(II)I" } : Jvm.MethodName)).before a0 Z = true := hw _ (List.mem_of_getElem? (i := 129) rfl)
theorem wd130 {Z : State} {a0 : Array Value} (hw : ∀ d ∈ tables_1, d.before a0 Z = true) : (Jvm.Cond.static ({ cls := "java/util/Objects", name := "checkIndex", desc := "(II)I" } : Jvm.MethodName)).before a0 Z = true := hw _ (List.mem_of_getElem? (i := 130) rfl)
theorem wd131 {Z : State} {a0 : Array Value} (hw : ∀ d ∈ tables_1, d.before a0 Z = true) : (Jvm.Cond.initialized "java/util/Objects").before a0 Z = true := hw _ (List.mem_of_getElem? (i := 131) rfl)
theorem wd132 {Z : State} {a0 : Array Value} (hw : ∀ d ∈ tables_1, d.before a0 Z = true) : (Jvm.Cond.code ({ cls := "java/util/Objects", name := "checkIndex", desc := "(II)I" } : Jvm.MethodName) jdk_31_method_17_code (2 : Nat) (Option.some Jvm.ClassFile.FieldType.int)).before a0 Z = true := hw _ (List.mem_of_getElem? (i := 132) rfl)
theorem wd133 {Z : State} {a0 : Array Value} (hw : ∀ d ∈ tables_1, d.before a0 Z = true) : (Jvm.Cond.methodLink "java/util/Objects" (105 : Nat) ({ cls := "jdk/internal/util/Preconditions", name := "checkIndex", desc := "(IILjava/util/function/BiFunction;)I" } : Jvm.MethodName)).before a0 Z = true := hw _ (List.mem_of_getElem? (i := 133) rfl)
theorem wd134 {Z : State} {a0 : Array Value} (hw : ∀ d ∈ tables_1, d.before a0 Z = true) : (Jvm.Cond.static ({ cls := "jdk/internal/util/Preconditions", name := "checkIndex", desc := "(IILjava/util/function/BiFunction;)I" } : Jvm.MethodName)).before a0 Z = true := hw _ (List.mem_of_getElem? (i := 134) rfl)
theorem wd135 {Z : State} {a0 : Array Value} (hw : ∀ d ∈ tables_1, d.before a0 Z = true) : (Jvm.Cond.initialized "jdk/internal/util/Preconditions").before a0 Z = true := hw _ (List.mem_of_getElem? (i := 135) rfl)
theorem wd136 {Z : State} {a0 : Array Value} (hw : ∀ d ∈ tables_1, d.before a0 Z = true) : (Jvm.Cond.code ({ cls := "jdk/internal/util/Preconditions", name := "checkIndex", desc := "(IILjava/util/function/BiFunction;)I" } : Jvm.MethodName) jdk_41_method_11_code (3 : Nat) (Option.some Jvm.ClassFile.FieldType.int)).before a0 Z = true := hw _ (List.mem_of_getElem? (i := 136) rfl)
theorem wd137 {Z : State} {a0 : Array Value} (hw : ∀ d ∈ tables_1, d.before a0 Z = true) : (Jvm.Cond.methodLink "java/util/ArrayList" (123 : Nat) ({ cls := "java/util/ArrayList", name := "elementData", desc := "(I)Ljava/lang/Object;" } : Jvm.MethodName)).before a0 Z = true := hw _ (List.mem_of_getElem? (i := 137) rfl)
theorem wd138 {Z : State} {a0 : Array Value} (hw : ∀ d ∈ tables_1, d.before a0 Z = true) : (Jvm.Cond.declares ({ cls := "java/util/ArrayList", name := "elementData", desc := "(I)Ljava/lang/Object;" } : Jvm.MethodName)).before a0 Z = true := hw _ (List.mem_of_getElem? (i := 138) rfl)
theorem wd139 {Z : State} {a0 : Array Value} (hw : ∀ d ∈ tables_1, d.before a0 Z = true) : (Jvm.Cond.instanceMethod ({ cls := "java/util/ArrayList", name := "elementData", desc := "(I)Ljava/lang/Object;" } : Jvm.MethodName)).before a0 Z = true := hw _ (List.mem_of_getElem? (i := 139) rfl)
theorem wd140 {Z : State} {a0 : Array Value} (hw : ∀ d ∈ tables_1, d.before a0 Z = true) : (Jvm.Cond.selects "java/util/ArrayList" ({ cls := "java/util/ArrayList", name := "elementData", desc := "(I)Ljava/lang/Object;" } : Jvm.MethodName) ({ cls := "java/util/ArrayList", name := "elementData", desc := "(I)Ljava/lang/Object;" } : Jvm.MethodName)).before a0 Z = true := hw _ (List.mem_of_getElem? (i := 140) rfl)
theorem wd141 {Z : State} {a0 : Array Value} (hw : ∀ d ∈ tables_1, d.before a0 Z = true) : (Jvm.Cond.code ({ cls := "java/util/ArrayList", name := "elementData", desc := "(I)Ljava/lang/Object;" } : Jvm.MethodName) jdk_38_method_18_code (2 : Nat) (Option.some (Jvm.ClassFile.FieldType.object "java/lang/Object"))).before a0 Z = true := hw _ (List.mem_of_getElem? (i := 141) rfl)
theorem d7_0 : decode prog_53_method_1_code 0 = .ok (.aload_n 0, 1) := by decide +kernel
theorem d7_1 : decode prog_53_method_1_code 1 = .ok (.invokespecial 1, 3) := by decide +kernel
theorem d7_4 : decode prog_53_method_1_code 4 = .ok (.aload_n 0, 1) := by decide +kernel
theorem d7_5 : decode prog_53_method_1_code 5 = .ok (.aload_n 1, 1) := by decide +kernel
theorem d7_6 : decode prog_53_method_1_code 6 = .ok (.putfield 7, 3) := by decide +kernel
theorem d7_9 : decode prog_53_method_1_code 9 = .ok (.aload_n 0, 1) := by decide +kernel
theorem d7_10 : decode prog_53_method_1_code 10 = .ok (.iload_n 2, 1) := by decide +kernel
theorem d7_11 : decode prog_53_method_1_code 11 = .ok (.putfield 13, 3) := by decide +kernel
theorem d7_14 : decode prog_53_method_1_code 14 = .ok (.return_, 1) := by decide +kernel
theorem d8_0 : decode jdk_30_method_1_code 0 = .ok (.aload_n 0, 1) := by decide +kernel
theorem d8_1 : decode jdk_30_method_1_code 1 = .ok (.invokespecial 1, 3) := by decide +kernel
theorem d8_4 : decode jdk_30_method_1_code 4 = .ok (.return_, 1) := by decide +kernel
theorem d9_0 : decode prog_53_method_4_code 0 = .ok (.aload_n 0, 1) := by decide +kernel
theorem d9_1 : decode prog_53_method_4_code 1 = .ok (.getfield 13, 3) := by decide +kernel
theorem d9_4 : decode prog_53_method_4_code 4 = .ok (.ifCond .eq 7, 3) := by decide +kernel
theorem d9_7 : decode prog_53_method_4_code 7 = .ok (.iconst 1, 1) := by decide +kernel
theorem d9_8 : decode prog_53_method_4_code 8 = .ok (.goto 4, 3) := by decide +kernel
theorem d9_11 : decode prog_53_method_4_code 11 = .ok (.iconst 0, 1) := by decide +kernel
theorem d9_12 : decode prog_53_method_4_code 12 = .ok (.ireturn, 1) := by decide +kernel
theorem d10_0 : decode prog_53_method_2_code 0 = .ok (.new 8, 3) := by decide +kernel
theorem d10_3 : decode prog_53_method_2_code 3 = .ok (.dup, 1) := by decide +kernel
theorem d10_4 : decode prog_53_method_2_code 4 = .ok (.aload_n 0, 1) := by decide +kernel
theorem d10_5 : decode prog_53_method_2_code 5 = .ok (.iconst 0, 1) := by decide +kernel
theorem d10_6 : decode prog_53_method_2_code 6 = .ok (.invokespecial 17, 3) := by decide +kernel
theorem d10_9 : decode prog_53_method_2_code 9 = .ok (.areturn, 1) := by decide +kernel
theorem d11_0 : decode prog_53_method_3_code 0 = .ok (.new 20, 3) := by decide +kernel
theorem d11_3 : decode prog_53_method_3_code 3 = .ok (.dup, 1) := by decide +kernel
theorem d11_4 : decode prog_53_method_3_code 4 = .ok (.invokespecial 22, 3) := by decide +kernel
theorem d11_7 : decode prog_53_method_3_code 7 = .ok (.astore_n 3, 1) := by decide +kernel
theorem d11_8 : decode prog_53_method_3_code 8 = .ok (.iconst 0, 1) := by decide +kernel
theorem d11_9 : decode prog_53_method_3_code 9 = .ok (.istore 4, 2) := by decide +kernel
theorem d11_11 : decode prog_53_method_3_code 11 = .ok (.iconst 0, 1) := by decide +kernel
theorem d11_12 : decode prog_53_method_3_code 12 = .ok (.istore 5, 2) := by decide +kernel
theorem d11_14 : decode prog_53_method_3_code 14 = .ok (.iload 5, 2) := by decide +kernel
theorem d11_16 : decode prog_53_method_3_code 16 = .ok (.iload_n 0, 1) := by decide +kernel
theorem d11_17 : decode prog_53_method_3_code 17 = .ok (.if_icmp .ge 40, 3) := by decide +kernel
theorem d11_20 : decode prog_53_method_3_code 20 = .ok (.aload_n 3, 1) := by decide +kernel
theorem d11_21 : decode prog_53_method_3_code 21 = .ok (.iload 5, 2) := by decide +kernel
theorem d11_23 : decode prog_53_method_3_code 23 = .ok (.iload_n 1, 1) := by decide +kernel
theorem d11_24 : decode prog_53_method_3_code 24 = .ok (.if_icmp .ne 7, 3) := by decide +kernel
theorem d11_27 : decode prog_53_method_3_code 27 = .ok (.aload_n 2, 1) := by decide +kernel
theorem d11_28 : decode prog_53_method_3_code 28 = .ok (.goto 17, 3) := by decide +kernel
theorem d11_31 : decode prog_53_method_3_code 31 = .ok (.new 8, 3) := by decide +kernel
theorem d11_34 : decode prog_53_method_3_code 34 = .ok (.dup, 1) := by decide +kernel
theorem d11_35 : decode prog_53_method_3_code 35 = .ok (.ldc 23, 2) := by decide +kernel
theorem d11_37 : decode prog_53_method_3_code 37 = .ok (.iinc 4 1, 3) := by decide +kernel
theorem d11_40 : decode prog_53_method_3_code 40 = .ok (.iload 4, 2) := by decide +kernel
theorem d11_42 : decode prog_53_method_3_code 42 = .ok (.invokespecial 17, 3) := by decide +kernel
theorem d11_45 : decode prog_53_method_3_code 45 = .ok (.invokeinterface 25 2, 5) := by decide +kernel
theorem d11_50 : decode prog_53_method_3_code 50 = .ok (.pop, 1) := by decide +kernel
theorem d11_51 : decode prog_53_method_3_code 51 = .ok (.iinc 5 1, 3) := by decide +kernel
theorem d11_54 : decode prog_53_method_3_code 54 = .ok (.goto (-40), 3) := by decide +kernel
theorem d11_57 : decode prog_53_method_3_code 57 = .ok (.aload_n 3, 1) := by decide +kernel
theorem d11_58 : decode prog_53_method_3_code 58 = .ok (.areturn, 1) := by decide +kernel
theorem d12_0 : decode jdk_38_method_2_code 0 = .ok (.aload_n 0, 1) := by decide +kernel
theorem d12_1 : decode jdk_38_method_2_code 1 = .ok (.invokespecial 1, 3) := by decide +kernel
theorem d12_4 : decode jdk_38_method_2_code 4 = .ok (.aload_n 0, 1) := by decide +kernel
theorem d12_5 : decode jdk_38_method_2_code 5 = .ok (.getstatic 39, 3) := by decide +kernel
theorem d12_8 : decode jdk_38_method_2_code 8 = .ok (.putfield 9, 3) := by decide +kernel
theorem d12_11 : decode jdk_38_method_2_code 11 = .ok (.return_, 1) := by decide +kernel
theorem d13_0 : decode jdk_39_method_1_code 0 = .ok (.aload_n 0, 1) := by decide +kernel
theorem d13_1 : decode jdk_39_method_1_code 1 = .ok (.invokespecial 1, 3) := by decide +kernel
theorem d13_4 : decode jdk_39_method_1_code 4 = .ok (.aload_n 0, 1) := by decide +kernel
theorem d13_5 : decode jdk_39_method_1_code 5 = .ok (.iconst 0, 1) := by decide +kernel
theorem d13_6 : decode jdk_39_method_1_code 6 = .ok (.putfield 7, 3) := by decide +kernel
theorem d13_9 : decode jdk_39_method_1_code 9 = .ok (.return_, 1) := by decide +kernel
theorem d14_0 : decode jdk_22_method_1_code 0 = .ok (.aload_n 0, 1) := by decide +kernel
theorem d14_1 : decode jdk_22_method_1_code 1 = .ok (.invokespecial 1, 3) := by decide +kernel
theorem d14_4 : decode jdk_22_method_1_code 4 = .ok (.return_, 1) := by decide +kernel
theorem d15_0 : decode jdk_38_method_25_code 0 = .ok (.aload_n 0, 1) := by decide +kernel
theorem d15_1 : decode jdk_38_method_25_code 1 = .ok (.dup, 1) := by decide +kernel
theorem d15_2 : decode jdk_38_method_25_code 2 = .ok (.getfield 63, 3) := by decide +kernel
theorem d15_5 : decode jdk_38_method_25_code 5 = .ok (.iconst 1, 1) := by decide +kernel
theorem d15_6 : decode jdk_38_method_25_code 6 = .ok (.iadd, 1) := by decide +kernel
theorem d15_7 : decode jdk_38_method_25_code 7 = .ok (.putfield 63, 3) := by decide +kernel
theorem d15_10 : decode jdk_38_method_25_code 10 = .ok (.aload_n 0, 1) := by decide +kernel
theorem d15_11 : decode jdk_38_method_25_code 11 = .ok (.aload_n 1, 1) := by decide +kernel
theorem d15_12 : decode jdk_38_method_25_code 12 = .ok (.aload_n 0, 1) := by decide +kernel
theorem d15_13 : decode jdk_38_method_25_code 13 = .ok (.getfield 9, 3) := by decide +kernel
theorem d15_16 : decode jdk_38_method_25_code 16 = .ok (.aload_n 0, 1) := by decide +kernel
theorem d15_17 : decode jdk_38_method_25_code 17 = .ok (.getfield 48, 3) := by decide +kernel
theorem d15_20 : decode jdk_38_method_25_code 20 = .ok (.invokevirtual 131, 3) := by decide +kernel
theorem d15_23 : decode jdk_38_method_25_code 23 = .ok (.iconst 1, 1) := by decide +kernel
theorem d15_24 : decode jdk_38_method_25_code 24 = .ok (.ireturn, 1) := by decide +kernel
theorem d16_0 : decode jdk_38_method_24_code 0 = .ok (.iload_n 3, 1) := by decide +kernel
theorem d16_1 : decode jdk_38_method_24_code 1 = .ok (.aload_n 2, 1) := by decide +kernel
theorem d16_2 : decode jdk_38_method_24_code 2 = .ok (.arraylength, 1) := by decide +kernel
theorem d16_3 : decode jdk_38_method_24_code 3 = .ok (.if_icmp .ne 8, 3) := by decide +kernel
theorem d16_6 : decode jdk_38_method_24_code 6 = .ok (.aload_n 0, 1) := by decide +kernel
theorem d16_7 : decode jdk_38_method_24_code 7 = .ok (.invokevirtual 129, 3) := by decide +kernel
theorem d16_10 : decode jdk_38_method_24_code 10 = .ok (.astore_n 2, 1) := by decide +kernel
theorem d16_11 : decode jdk_38_method_24_code 11 = .ok (.aload_n 2, 1) := by decide +kernel
theorem d16_12 : decode jdk_38_method_24_code 12 = .ok (.iload_n 3, 1) := by decide +kernel
theorem d16_13 : decode jdk_38_method_24_code 13 = .ok (.aload_n 1, 1) := by decide +kernel
theorem d16_14 : decode jdk_38_method_24_code 14 = .ok (.aastore, 1) := by decide +kernel
theorem d16_15 : decode jdk_38_method_24_code 15 = .ok (.aload_n 0, 1) := by decide +kernel
theorem d16_16 : decode jdk_38_method_24_code 16 = .ok (.iload_n 3, 1) := by decide +kernel
theorem d16_17 : decode jdk_38_method_24_code 17 = .ok (.iconst 1, 1) := by decide +kernel
theorem d16_18 : decode jdk_38_method_24_code 18 = .ok (.iadd, 1) := by decide +kernel
theorem d16_19 : decode jdk_38_method_24_code 19 = .ok (.putfield 48, 3) := by decide +kernel
theorem d16_22 : decode jdk_38_method_24_code 22 = .ok (.return_, 1) := by decide +kernel
theorem d17_0 : decode jdk_38_method_7_code 0 = .ok (.aload_n 0, 1) := by decide +kernel
theorem d17_1 : decode jdk_38_method_7_code 1 = .ok (.aload_n 0, 1) := by decide +kernel
theorem d17_2 : decode jdk_38_method_7_code 2 = .ok (.getfield 48, 3) := by decide +kernel
theorem d17_5 : decode jdk_38_method_7_code 5 = .ok (.iconst 1, 1) := by decide +kernel
theorem d17_6 : decode jdk_38_method_7_code 6 = .ok (.iadd, 1) := by decide +kernel
theorem d17_7 : decode jdk_38_method_7_code 7 = .ok (.invokevirtual 69, 3) := by decide +kernel
theorem d17_10 : decode jdk_38_method_7_code 10 = .ok (.areturn, 1) := by decide +kernel
theorem d18_0 : decode jdk_38_method_6_code 0 = .ok (.aload_n 0, 1) := by decide +kernel
theorem d18_1 : decode jdk_38_method_6_code 1 = .ok (.getfield 9, 3) := by decide +kernel
theorem d18_4 : decode jdk_38_method_6_code 4 = .ok (.arraylength, 1) := by decide +kernel
theorem d18_5 : decode jdk_38_method_6_code 5 = .ok (.istore_n 2, 1) := by decide +kernel
theorem d18_6 : decode jdk_38_method_6_code 6 = .ok (.iload_n 2, 1) := by decide +kernel
theorem d18_7 : decode jdk_38_method_6_code 7 = .ok (.ifCond .gt 13, 3) := by decide +kernel
theorem d18_10 : decode jdk_38_method_6_code 10 = .ok (.aload_n 0, 1) := by decide +kernel
theorem d18_11 : decode jdk_38_method_6_code 11 = .ok (.getfield 9, 3) := by decide +kernel
theorem d18_14 : decode jdk_38_method_6_code 14 = .ok (.getstatic 39, 3) := by decide +kernel
theorem d18_17 : decode jdk_38_method_6_code 17 = .ok (.if_acmp .eq 28, 3) := by decide +kernel
theorem d18_45 : decode jdk_38_method_6_code 45 = .ok (.aload_n 0, 1) := by decide +kernel
theorem d18_46 : decode jdk_38_method_6_code 46 = .ok (.bipush 10, 2) := by decide +kernel
theorem d18_48 : decode jdk_38_method_6_code 48 = .ok (.iload_n 1, 1) := by decide +kernel
theorem d18_49 : decode jdk_38_method_6_code 49 = .ok (.invokestatic 79, 3) := by decide +kernel
theorem d18_52 : decode jdk_38_method_6_code 52 = .ok (.anewarray 7, 3) := by decide +kernel
theorem d18_55 : decode jdk_38_method_6_code 55 = .ok (.dup_x1, 1) := by decide +kernel
theorem d18_56 : decode jdk_38_method_6_code 56 = .ok (.putfield 9, 3) := by decide +kernel
theorem d18_59 : decode jdk_38_method_6_code 59 = .ok (.areturn, 1) := by decide +kernel
theorem d19_0 : decode jdk_29_method_65_code 0 = .ok (.iload_n 0, 1) := by decide +kernel
theorem d19_1 : decode jdk_29_method_65_code 1 = .ok (.iload_n 1, 1) := by decide +kernel
theorem d19_2 : decode jdk_29_method_65_code 2 = .ok (.if_icmp .lt 7, 3) := by decide +kernel
theorem d19_5 : decode jdk_29_method_65_code 5 = .ok (.iload_n 0, 1) := by decide +kernel
theorem d19_6 : decode jdk_29_method_65_code 6 = .ok (.goto 4, 3) := by decide +kernel
theorem d19_10 : decode jdk_29_method_65_code 10 = .ok (.ireturn, 1) := by decide +kernel
theorem d20_0 : decode jdk_38_method_20_code 0 = .ok (.iload_n 1, 1) := by decide +kernel
theorem d20_1 : decode jdk_38_method_20_code 1 = .ok (.aload_n 0, 1) := by decide +kernel
theorem d20_2 : decode jdk_38_method_20_code 2 = .ok (.getfield 48, 3) := by decide +kernel
theorem d20_5 : decode jdk_38_method_20_code 5 = .ok (.invokestatic 118, 3) := by decide +kernel
theorem d20_8 : decode jdk_38_method_20_code 8 = .ok (.pop, 1) := by decide +kernel
theorem d20_9 : decode jdk_38_method_20_code 9 = .ok (.aload_n 0, 1) := by decide +kernel
theorem d20_10 : decode jdk_38_method_20_code 10 = .ok (.iload_n 1, 1) := by decide +kernel
theorem d20_11 : decode jdk_38_method_20_code 11 = .ok (.invokevirtual 123, 3) := by decide +kernel
theorem d20_14 : decode jdk_38_method_20_code 14 = .ok (.areturn, 1) := by decide +kernel
theorem d21_0 : decode jdk_31_method_17_code 0 = .ok (.iload_n 0, 1) := by decide +kernel
theorem d21_1 : decode jdk_31_method_17_code 1 = .ok (.iload_n 1, 1) := by decide +kernel
theorem d21_2 : decode jdk_31_method_17_code 2 = .ok (.aconst_null, 1) := by decide +kernel
theorem d21_3 : decode jdk_31_method_17_code 3 = .ok (.invokestatic 105, 3) := by decide +kernel
theorem d21_6 : decode jdk_31_method_17_code 6 = .ok (.ireturn, 1) := by decide +kernel
theorem d22_0 : decode jdk_41_method_11_code 0 = .ok (.iload_n 0, 1) := by decide +kernel
theorem d22_1 : decode jdk_41_method_11_code 1 = .ok (.ifCond .lt 8, 3) := by decide +kernel
theorem d22_4 : decode jdk_41_method_11_code 4 = .ok (.iload_n 0, 1) := by decide +kernel
theorem d22_5 : decode jdk_41_method_11_code 5 = .ok (.iload_n 1, 1) := by decide +kernel
theorem d22_6 : decode jdk_41_method_11_code 6 = .ok (.if_icmp .lt 10, 3) := by decide +kernel
theorem d22_16 : decode jdk_41_method_11_code 16 = .ok (.iload_n 0, 1) := by decide +kernel
theorem d22_17 : decode jdk_41_method_11_code 17 = .ok (.ireturn, 1) := by decide +kernel
theorem d23_0 : decode jdk_38_method_18_code 0 = .ok (.aload_n 0, 1) := by decide +kernel
theorem d23_1 : decode jdk_38_method_18_code 1 = .ok (.getfield 9, 3) := by decide +kernel
theorem d23_4 : decode jdk_38_method_18_code 4 = .ok (.iload_n 1, 1) := by decide +kernel
theorem d23_5 : decode jdk_38_method_18_code 5 = .ok (.aaload, 1) := by decide +kernel
theorem d23_6 : decode jdk_38_method_18_code 6 = .ok (.areturn, 1) := by decide +kernel
theorem pd0 : parseMethodDescriptor "()V" = some ⟨[], none⟩ := by decide +kernel
theorem pd1 : parseMethodDescriptor "(II)I" = some ⟨[.int, .int], some .int⟩ := by decide +kernel
theorem pd2 : parseMethodDescriptor "(I)[Ljava/lang/Object;" = some ⟨[.int], some (.array (.object "java/lang/Object"))⟩ := by decide +kernel
theorem pd3 : parseMethodDescriptor "()[Ljava/lang/Object;" = some ⟨[], some (.array (.object "java/lang/Object"))⟩ := by decide +kernel
theorem pd4 : parseMethodDescriptor "(Ljava/lang/Object;[Ljava/lang/Object;I)V" = some ⟨[(.object "java/lang/Object"), (.array (.object "java/lang/Object")), .int], none⟩ := by decide +kernel
theorem pd5 : parseMethodDescriptor "(IILjava/util/function/BiFunction;)I" = some ⟨[.int, .int, (.object "java/util/function/BiFunction")], some .int⟩ := by decide +kernel
theorem pd6 : parseMethodDescriptor "(I)Ljava/lang/Object;" = some ⟨[.int], some (.object "java/lang/Object")⟩ := by decide +kernel
theorem pd7 : parseMethodDescriptor "(Ljava/lang/String;I)V" = some ⟨[(.object "java/lang/String"), .int], none⟩ := by decide +kernel
theorem pd8 : parseMethodDescriptor "(Ljava/lang/Object;)Z" = some ⟨[(.object "java/lang/Object")], some .boolean⟩ := by decide +kernel
theorem pd9 : parseMethodDescriptor "([C)V" = some ⟨[(.array .char)], none⟩ := by decide +kernel
theorem pd10 : parseMethodDescriptor "()Z" = some ⟨[], some .boolean⟩ := by decide +kernel
theorem pd11 : parseMethodDescriptor "(Ljava/lang/String;)Lhornwright/model/Variable;" = some ⟨[(.object "java/lang/String")], some (.object "hornwright/model/Variable")⟩ := by decide +kernel
theorem pd12 : parseMethodDescriptor "(IILhornwright/model/Variable;)Ljava/util/List;" = some ⟨[.int, .int, (.object "hornwright/model/Variable")], some (.object "java/util/List")⟩ := by decide +kernel
theorem pn0 : plainName "java/util/AbstractCollection" = true := by first | (simp [plainName, overriddenIn]; done) | decide +kernel
theorem pn1 : plainName "java/util/AbstractList" = true := by first | (simp [plainName, overriddenIn]; done) | decide +kernel
theorem pn2 : plainName "java/util/ArrayList" = true := by first | (simp [plainName, overriddenIn]; done) | decide +kernel
theorem pn3 : plainName "jdk/internal/util/Preconditions" = true := by first | (simp [plainName, overriddenIn]; done) | decide +kernel
theorem pn4 : plainName "java/util/Objects" = true := by first | (simp [plainName, overriddenIn]; done) | decide +kernel
theorem pn5 : plainName "java/lang/Record" = true := by first | (simp [plainName, overriddenIn]; done) | decide +kernel
theorem pn6 : plainName "hornwright/model/Variable" = true := by first | (simp [plainName, overriddenIn]; done) | decide +kernel
theorem pn7 : plainName "hornwright/model/VariableIsAnonymousPinLaw" = true := by first | (simp [plainName, overriddenIn]; done) | decide +kernel
/-- what is said of the start -/
def Gl (Z : State) (a0 : Array Value) (cz : Int32) (De : Addr) : Prop :=
  (∀ d ∈ tables_1, d.before a0 Z = true) ∧ Sta Z Z.heap "java/lang/String" "COMPACT_STRINGS" "Z" (.int cz) ∧ ¬ cz = 0 ∧ Sta Z Z.heap "java/util/ArrayList" "DEFAULTCAPACITY_EMPTY_ELEMENTDATA" "[Ljava/lang/Object;" (.ref De) ∧ ∃ fD, Av Z Z.heap De (.object "java/lang/Object") 0 fD
abbrev rmE0 : Room := { frames := 0, cells := 0, slots := 0, locals := 0 }
abbrev rmE1 : Room := { frames := 1, cells := 0, slots := 0, locals := 16 }
abbrev rmE2 : Room := { frames := 2, cells := 0, slots := 0, locals := 40 }
abbrev rmE3 : Room := { frames := 3, cells := 0, slots := 0, locals := 64 }
abbrev rmG1 : Room := { frames := 1, cells := 1, slots := 10, locals := 24 }
abbrev rmG0 : Room := { frames := 2, cells := 1, slots := 10, locals := 48 }
abbrev rmA3 : Room := { frames := 3, cells := 1, slots := 10, locals := 72 }
abbrev rmA1 : Room := { frames := 4, cells := 1, slots := 10, locals := 96 }
def ALF (Z : State) (h : Heap) (a : Addr) (v0 v1 v2 : Value) : Prop := Exa Z h a "java/util/ArrayList" ∧ Fld Z h a "java/util/ArrayList" "elementData" "[Ljava/lang/Object;" v0 ∧ Fld Z h a "java/util/ArrayList" "size" "I" v1 ∧ Fld Z h a "java/util/AbstractList" "modCount" "I" v2
theorem ALF.ext {Z : State} {h h' : Heap} {a : Addr} {v0 v1 v2 : Value} (F : ALF Z h a v0 v1 v2) (E : Ext h h') : ALF Z h' a v0 v1 v2 := ⟨F.1.ext E, F.2.1.ext E, F.2.2.1.ext E, F.2.2.2.ext E⟩
theorem ALF.other {Z : State} {h h' : Heap} {a : Addr} {v0 v1 v2 : Value} {b : Addr} {sl : Nat} {v : Value} (F : ALF Z h a v0 v1 v2) (W : Wr h h' b sl v) (ne : a ≠ b) : ALF Z h' a v0 v1 v2 := ⟨F.1.wr W, F.2.1.other W (Or.inl ne), F.2.2.1.other W (Or.inl ne), F.2.2.2.other W (Or.inl ne)⟩
theorem ALF.keep {Z : State} {h h' : Heap} {a : Addr} {v0 v1 v2 : Value} {ws : List Addr} (F : ALF Z h a v0 v1 v2) (K : Keep h h' ws) (ne : a ∉ ws) : ALF Z h' a v0 v1 v2 := ⟨F.1.keep K, F.2.1.keep K ne, F.2.2.1.keep K ne, F.2.2.2.keep K ne⟩
theorem ALF.w0 {Z : State} {h h' : Heap} {a : Addr} {v0 v1 v2 : Value} {a0 : Array Value} {v : Value} (hw : ∀ d ∈ tables_1, d.before a0 Z = true) (F : ALF Z h a v0 v1 v2) (W : Wr h h' a (Jvm.RoadKit.slotOf Z "java/util/ArrayList" "elementData" "[Ljava/lang/Object;") v) : ALF Z h' a v v1 v2 := ⟨F.1.wr W, F.2.1.same W, F.2.2.1.other W (Or.inr (slot_ne (Or.inl (wd98 hw)) (Or.inl (wd82 hw)) (by decide) (t := .int) (t' := (.array (.object "java/lang/Object"))) (by decide) (by decide))), F.2.2.2.other W (Or.inr (slot_ne (Or.inl (wd79 hw)) (Or.inl (wd82 hw)) (by decide) (t := .int) (t' := (.array (.object "java/lang/Object"))) (by decide) (by decide)))⟩
theorem ALF.w1 {Z : State} {h h' : Heap} {a : Addr} {v0 v1 v2 : Value} {a0 : Array Value} {v : Value} (hw : ∀ d ∈ tables_1, d.before a0 Z = true) (F : ALF Z h a v0 v1 v2) (W : Wr h h' a (Jvm.RoadKit.slotOf Z "java/util/ArrayList" "size" "I") v) : ALF Z h' a v0 v v2 := ⟨F.1.wr W, F.2.1.other W (Or.inr (slot_ne (Or.inl (wd82 hw)) (Or.inl (wd98 hw)) (by decide) (t := (.array (.object "java/lang/Object"))) (t' := .int) (by decide) (by decide))), F.2.2.1.same W, F.2.2.2.other W (Or.inr (slot_ne (Or.inl (wd79 hw)) (Or.inl (wd98 hw)) (by decide) (t := .int) (t' := .int) (by decide) (by decide)))⟩
theorem ALF.w2 {Z : State} {h h' : Heap} {a : Addr} {v0 v1 v2 : Value} {a0 : Array Value} {v : Value} (hw : ∀ d ∈ tables_1, d.before a0 Z = true) (F : ALF Z h a v0 v1 v2) (W : Wr h h' a (Jvm.RoadKit.slotOf Z "java/util/AbstractList" "modCount" "I") v) : ALF Z h' a v0 v1 v := ⟨F.1.wr W, F.2.1.other W (Or.inr (slot_ne (Or.inl (wd82 hw)) (Or.inl (wd79 hw)) (by decide) (t := (.array (.object "java/lang/Object"))) (t' := .int) (by decide) (by decide))), F.2.2.1.other W (Or.inr (slot_ne (Or.inl (wd98 hw)) (Or.inl (wd79 hw)) (by decide) (t := .int) (t' := .int) (by decide) (by decide))), F.2.2.2.same W⟩
set_option maxRecDepth 65536 in
set_option maxHeartbeats 40000000 in
theorem c_acinit (l : Launch) (Z : State) (a0 : Array Value) (cz : Int32) (De0 : Addr) (G : Gl Z a0 cz De0) (a : Addr) (h0 : Heap) (n0 : Nat) :
    Ctr l Z (⟨"java/util/AbstractCollection", "<init>", "()V"⟩ : MethodName) jdk_22_method_1_code 1 none rmE1 #[(.ref a)] h0 n0 (fun v h => h0 = h ∧ v = none) := by
  have hw := G.1
  refine Ctr.of (n1 := n0) #[.val (.ref a)] (plainFor_of_name pn0) (fun m => by first | (simp [entryFrame, mkF, argsToLocals, Value.category, maxLocals]; done) | rfl) ?_
  intro p e s m below meth c C
  refine g_aloadN C d14_0 (v := (.ref a)) rfl rfl (q := 1) rfl ?_
  refine g_initO C d14_1 (wd77 hw) (wd12 hw) (wd13 hw) rfl (by decide) (W := 0) rfl (by decide) (q := 4) rfl ?_
  refine g_return C d14_4 (Nat.le_refl _) (by decide) (by decide) ⟨rfl, rfl⟩
set_option maxRecDepth 65536 in
set_option maxHeartbeats 40000000 in
theorem c_ablinit (l : Launch) (Z : State) (a0 : Array Value) (cz : Int32) (De0 : Addr) (G : Gl Z a0 cz De0) (a : Addr) (v0 v1 v2 : Value) (h0 : Heap) (n0 : Nat) (ga : n0 ≤ a) (F : ALF Z h0 a v0 v1 v2) :
    Ctr l Z (⟨"java/util/AbstractList", "<init>", "()V"⟩ : MethodName) jdk_39_method_1_code 1 none rmE2 #[(.ref a)] h0 n0 (fun v h => v = none ∧ Keep h0 h [a] ∧ ALF Z h a v0 v1 (.int 0)) := by
  have hw := G.1
  refine Ctr.of (n1 := n0) #[.val (.ref a)] (plainFor_of_name pn1) (fun m => by first | (simp [entryFrame, mkF, argsToLocals, Value.category, maxLocals]; done) | rfl) ?_
  intro p e s m below meth c C
  refine g_aloadN C d13_0 (v := (.ref a)) rfl rfl (q := 1) rfl ?_
  refine g_callI C (W := 0) (argsL := []) (rest := []) (a := a) d13_1 rfl (wd71 hw) (wd72 hw) (wd76 hw) (by decide) (Ctr.bk (c_acinit l Z a0 cz De0 G a h0 n0) C (wd76 hw) (wd75 hw) (by decide) (by decide)) (by decide) (by decide) rfl (lenOf pd0 rfl) rfl rfl (q := 4) rfl (fun v1 h1 hQ1 => ?_)
  obtain ⟨rfl, rfl⟩ := hQ1
  refine ⟨[], rfl, ?_⟩
  refine g_aloadN C d13_4 (v := (.ref a)) rfl rfl (q := 5) rfl ?_
  refine g_iconst C d13_5 (z := (0 : Int32)) rfl (q := 6) rfl ?_
  refine g_putf C d13_6 (host := "") (Or.inl (wd78 hw)) Via.refl F.2.2.2 F.1 (Or.inl (wd79 hw)) (wd60 hw) (ty := .int) (by decide) rfl rfl ga (q := 9) rfl (fun h2 W2 => ?_)
  refine g_return C d13_9 (Nat.le_refl _) (by decide) (by decide) ⟨rfl, Keep.of_wr W2, F.w2 hw W2⟩
set_option maxRecDepth 65536 in
set_option maxHeartbeats 40000000 in
theorem c_alinit (l : Launch) (Z : State) (a0 : Array Value) (cz : Int32) (De0 : Addr) (G : Gl Z a0 cz De0) (a : Addr) (v0 v1 v2 : Value) (h0 : Heap) (n0 : Nat) (ga : n0 ≤ a) (F : ALF Z h0 a v0 v1 v2) (De : Addr) (SD : Sta Z Z.heap "java/util/ArrayList" "DEFAULTCAPACITY_EMPTY_ELEMENTDATA" "[Ljava/lang/Object;" (.ref De)) (X0 : Ext Z.heap h0) (gz : Z.heap.size ≤ a) :
    Ctr l Z (⟨"java/util/ArrayList", "<init>", "()V"⟩ : MethodName) jdk_38_method_2_code 1 none rmE3 #[(.ref a)] h0 n0 (fun v h => v = none ∧ Keep h0 h [a] ∧ ALF Z h a (.ref De) v1 (.int 0)) := by
  have hw := G.1
  refine Ctr.of (n1 := n0) #[.val (.ref a)] (plainFor_of_name pn2) (fun m => by first | (simp [entryFrame, mkF, argsToLocals, Value.category, maxLocals]; done) | rfl) ?_
  intro p e s m below meth c C
  refine g_aloadN C d12_0 (v := (.ref a)) rfl rfl (q := 1) rfl ?_
  refine g_callI C (W := 0) (argsL := []) (rest := []) (a := a) d12_1 rfl (wd65 hw) (wd66 hw) (wd70 hw) (by decide) (Ctr.bk (c_ablinit l Z a0 cz De0 G a v0 v1 v2 h0 n0 ga F) C (wd70 hw) (wd69 hw) (by decide) (by decide)) (by decide) (by decide) rfl (lenOf pd0 rfl) rfl rfl (q := 4) rfl (fun v1 h1 hQ1 => ?_)
  obtain ⟨rfl, K1, F1⟩ := hQ1
  refine ⟨[], rfl, ?_⟩
  refine g_aloadN C d12_4 (v := (.ref a)) rfl rfl (q := 5) rfl ?_
  refine g_gets C d12_5 (host := "") (Or.inl (wd80 hw)) Via.refl (SD.ext (Ext.keep X0 K1 (fun x hx => by cases List.mem_singleton.mp hx; exact gz))) (q := 8) rfl ?_
  refine g_putf C d12_8 (host := "") (Or.inl (wd81 hw)) Via.refl F1.2.1 F1.1 (Or.inl (wd82 hw)) (wd60 hw) (ty := (.array (.object "java/lang/Object"))) (by decide) rfl rfl ga (q := 11) rfl (fun h2 W2 => ?_)
  refine g_return C d12_11 (Nat.le_refl _) (by decide) (by decide) ⟨rfl, K1.wr W2 (Or.inl (by simp)), F1.w0 hw W2⟩
set_option maxRecDepth 65536 in
set_option maxHeartbeats 40000000 in
theorem c_max (l : Launch) (Z : State) (a0 : Array Value) (cz : Int32) (De0 : Addr) (G : Gl Z a0 cz De0) (h0 : Heap) (n0 : Nat) :
    Ctr l Z (⟨"java/lang/Math", "max", "(II)I"⟩ : MethodName) jdk_29_method_65_code 2 (some .int) rmE0 #[(.int (10 : Int32)), (.int (1 : Int32))] h0 n0 (fun v h => h0 = h ∧ v = some (.int 10)) := by
  have hw := G.1
  refine Ctr.of (n1 := n0) #[.val (.int (10 : Int32)), .val (.int (1 : Int32))] (by decide +kernel) (fun m => by first | (simp [entryFrame, mkF, argsToLocals, Value.category, maxLocals]; done) | rfl) ?_
  intro p e s m below meth c C
  refine g_iloadN C d19_0 (v := (10 : Int32)) rfl (q := 1) rfl ?_
  refine g_iloadN C d19_1 (v := (1 : Int32)) rfl (q := 2) rfl ?_
  refine g_icmp_lt C d19_2 (q' := 9) (q := 5) (by decide) (by decide) rfl (fun hy => absurd hy (by decide)) (fun hn => ?_)
  refine g_iloadN C d19_5 (v := (10 : Int32)) rfl (q := 6) rfl ?_
  refine g_goto C d19_6 (q := 10) (by decide) (by decide) ?_
  refine g_ireturn C d19_10 (Nat.le_refl _) (by decide) (by decide) ⟨rfl, rfl⟩
set_option maxRecDepth 65536 in
set_option maxHeartbeats 40000000 in
theorem c_grow1 (l : Launch) (Z : State) (a0 : Array Value) (cz : Int32) (De0 : Addr) (G : Gl Z a0 cz De0) (a : Addr) (mc : Value) (h0 : Heap) (n0 : Nat) (Z0 : n0 ≤ h0.size) (ga : n0 ≤ a) (De : Addr) (SD : Sta Z Z.heap "java/util/ArrayList" "DEFAULTCAPACITY_EMPTY_ELEMENTDATA" "[Ljava/lang/Object;" (.ref De)) (fD : Nat → Value) (AD : Av Z Z.heap De (.object "java/lang/Object") 0 fD) (X0 : Ext Z.heap h0) (F : ALF Z h0 a (.ref De) (.int 0) mc) :
    Ctr l Z (⟨"java/util/ArrayList", "grow", "(I)[Ljava/lang/Object;"⟩ : MethodName) jdk_38_method_6_code 4 (some (.array (.object "java/lang/Object"))) rmG1 #[(.ref a), (.int (1 : Int32))] h0 n0 (fun v h => ∃ r, v = some (.ref r) ∧ h0.size ≤ r ∧ Keep h0 h [a] ∧ ALF Z h a (.ref r) (.int 0) mc ∧ Ao Z h r "java/lang/Object" 10 (fun _ => .null)) := by
  have hw := G.1
  refine Ctr.of (n1 := n0) #[.val (.ref a), .val (.int (1 : Int32)), .unset, .unset] (plainFor_of_name pn2) (fun m => by first | (simp [entryFrame, mkF, argsToLocals, Value.category, maxLocals]; done) | rfl) ?_
  intro p e s m below meth c C
  refine g_aloadN C d18_0 (v := (.ref a)) rfl rfl (q := 1) rfl ?_
  refine g_getf C d18_1 (host := "") (Or.inl (wd81 hw)) Via.refl F.2.1 (q := 4) rfl ?_
  refine g_alen C d18_4 (AD.ext X0) (z := (0 : Int32)) rfl (q := 5) rfl ?_
  refine g_istoreN C d18_5 (L' := #[.val (.ref a), .val (.int (1 : Int32)), .val (.int (0 : Int32)), .unset]) rfl (q := 6) rfl ?_
  refine g_iloadN C d18_6 (v := (0 : Int32)) rfl (q := 7) rfl ?_
  refine g_if_gt C d18_7 (q' := 20) (q := 10) (by decide) (by decide) rfl (fun hy => absurd hy (by decide)) (fun hn => ?_)
  refine g_aloadN C d18_10 (v := (.ref a)) rfl rfl (q := 11) rfl ?_
  refine g_getf C d18_11 (host := "") (Or.inl (wd81 hw)) Via.refl F.2.1 (q := 14) rfl ?_
  refine g_gets C d18_14 (host := "") (Or.inl (wd80 hw)) Via.refl (SD.ext X0) (q := 17) rfl ?_
  refine g_acmp_eq C d18_17 rfl rfl (q' := 45) (q := 20) (by decide) (by decide) rfl (fun hy => ?_) (fun hn => absurd rfl hn)
  refine g_aloadN C d18_45 (v := (.ref a)) rfl rfl (q := 46) rfl ?_
  refine g_bipush C d18_46 (z := (10 : Int32)) rfl (q := 48) rfl ?_
  refine g_iloadN C d18_48 (v := (1 : Int32)) rfl (q := 49) rfl ?_
  refine g_callS C (W := 1) (argsL := [(.int (10 : Int32)), (.int (1 : Int32))]) (rest := [(.ref a)]) d18_49 (wd114 hw) (wd115 hw) (wd116 hw) (wd117 hw) (by decide) (Ctr.bk (c_max l Z a0 cz De0 G h0 n0) C (wd117 hw) (wd116 hw) (by decide) (by decide)) (by decide) (by decide) rfl (lenOf pd1 rfl) rfl rfl (q := 52) rfl (fun v1 h1 hQ1 => ?_)
  obtain ⟨rfl, rfl⟩ := hQ1
  refine ⟨[(.int (10 : Int32)), (.ref a)], rfl, ?_⟩
  refine g_anewarray C d18_52 (wd118 hw) (wd119 hw) (by decide) (cap := 10) (by decide) (by decide) (by decide) (by decide) (q := 55) rfl (fun r h1 k1 q1 E1 A1 O1 => ?_)
  have B1 := Ao.new A1 O1 (by decide)
  have F1 := F.ext E1
  have ne : r ≠ a := fun q => by have := F.1.lt; rw [← q, q1] at this; exact absurd this (Nat.lt_irrefl _)
  refine g_dup_x1 C d18_55 rfl rfl (q := 56) rfl ?_
  refine g_putf C d18_56 (host := "") (Or.inl (wd81 hw)) Via.refl F1.2.1 F1.1 (Or.inl (wd82 hw)) (wd60 hw) (ty := (.array (.object "java/lang/Object"))) (by decide) rfl rfl ga (q := 59) rfl (fun h2 W2 => ?_)
  refine g_areturn C d18_59 rfl rfl (Nat.le_refl _) (by decide) (by decide) ⟨r, rfl, by rw [q1]; exact Nat.le_refl _, (Ext.kp E1 [a]).wr W2 (Or.inl (by simp)), F1.w0 hw W2, B1.other W2 ne⟩
set_option maxRecDepth 65536 in
set_option maxHeartbeats 40000000 in
theorem c_grow0 (l : Launch) (Z : State) (a0 : Array Value) (cz : Int32) (De0 : Addr) (G : Gl Z a0 cz De0) (a : Addr) (mc : Value) (h0 : Heap) (n0 : Nat) (Z0 : n0 ≤ h0.size) (ga : n0 ≤ a) (De : Addr) (SD : Sta Z Z.heap "java/util/ArrayList" "DEFAULTCAPACITY_EMPTY_ELEMENTDATA" "[Ljava/lang/Object;" (.ref De)) (fD : Nat → Value) (AD : Av Z Z.heap De (.object "java/lang/Object") 0 fD) (X0 : Ext Z.heap h0) (F : ALF Z h0 a (.ref De) (.int 0) mc) :
    Ctr l Z (⟨"java/util/ArrayList", "grow", "()[Ljava/lang/Object;"⟩ : MethodName) jdk_38_method_7_code 1 (some (.array (.object "java/lang/Object"))) rmG0 #[(.ref a)] h0 n0 (fun v h => ∃ r, v = some (.ref r) ∧ h0.size ≤ r ∧ Keep h0 h [a] ∧ ALF Z h a (.ref r) (.int 0) mc ∧ Ao Z h r "java/lang/Object" 10 (fun _ => .null)) := by
  have hw := G.1
  refine Ctr.of (n1 := n0) #[.val (.ref a)] (plainFor_of_name pn2) (fun m => by first | (simp [entryFrame, mkF, argsToLocals, Value.category, maxLocals]; done) | rfl) ?_
  intro p e s m below meth c C
  refine g_aloadN C d17_0 (v := (.ref a)) rfl rfl (q := 1) rfl ?_
  refine g_aloadN C d17_1 (v := (.ref a)) rfl rfl (q := 2) rfl ?_
  refine g_getf C d17_2 (host := "") (Or.inl (wd97 hw)) Via.refl F.2.2.1 (q := 5) rfl ?_
  refine g_iconst C d17_5 (z := (1 : Int32)) rfl (q := 6) rfl ?_
  refine g_iadd C d17_6 (q := 7) rfl ?_
  rw [show (0 : Int32) + 1 = 1 from rfl]
  refine g_callP C (W := 0) (argsL := [(.int (1 : Int32))]) (rest := []) (a := a) d17_7 (wd109 hw) (wd110 hw) (wd60 hw) (wd113 hw) (by decide) (priv_of C (wd111 hw)) F.1 (Ctr.bk (c_grow1 l Z a0 cz De0 G a mc h0 n0 Z0 ga De SD fD AD X0 F) C (wd113 hw) (wd61 hw) (by decide) (by decide)) (by decide) (by decide) rfl (lenOf pd2 rfl) rfl rfl (q := 10) rfl (fun v1 h1 hQ1 => ?_)
  obtain ⟨r, rfl, gr, K1, F1, B1⟩ := hQ1
  refine ⟨[(.ref r)], rfl, ?_⟩
  refine g_areturn C d17_10 rfl rfl (Nat.le_refl _) (by decide) (by decide) ⟨r, rfl, gr, K1, F1, B1⟩
set_option maxRecDepth 65536 in
set_option maxHeartbeats 40000000 in
theorem c_add3a (l : Launch) (Z : State) (a0 : Array Value) (cz : Int32) (De0 : Addr) (G : Gl Z a0 cz De0) (a : Addr) (mc : Value) (h0 : Heap) (n0 : Nat) (Z0 : n0 ≤ h0.size) (ga : n0 ≤ a) (De : Addr) (SD : Sta Z Z.heap "java/util/ArrayList" "DEFAULTCAPACITY_EMPTY_ELEMENTDATA" "[Ljava/lang/Object;" (.ref De)) (fD : Nat → Value) (AD : Av Z Z.heap De (.object "java/lang/Object") 0 fD) (X0 : Ext Z.heap h0) (F : ALF Z h0 a (.ref De) (.int 0) mc) (x : Addr) (Cx0 : String) (Ex : Exa Z h0 x Cx0) (wOb : (Cond.castable Cx0 "java/lang/Object").before a0 Z = true) :
    Ctr l Z (⟨"java/util/ArrayList", "add", "(Ljava/lang/Object;[Ljava/lang/Object;I)V"⟩ : MethodName) jdk_38_method_24_code 4 none rmA3 #[(.ref a), (.ref x), (.ref De), (.int (0 : Int32))] h0 n0 (fun v h => v = none ∧ ∃ r, h0.size ≤ r ∧ Keep h0 h [a] ∧ ALF Z h a (.ref r) (.int 1) mc ∧ Ao Z h r "java/lang/Object" 10 (fun j => if j = 0 then .ref x else .null)) := by
  have hw := G.1
  refine Ctr.of (n1 := n0) #[.val (.ref a), .val (.ref x), .val (.ref De), .val (.int (0 : Int32))] (plainFor_of_name pn2) (fun m => by first | (simp [entryFrame, mkF, argsToLocals, Value.category, maxLocals]; done) | rfl) ?_
  intro p e s m below meth c C
  refine g_iloadN C d16_0 (v := (0 : Int32)) rfl (q := 1) rfl ?_
  refine g_aloadN C d16_1 (v := (.ref De)) rfl rfl (q := 2) rfl ?_
  refine g_alen C d16_2 (AD.ext X0) (z := (0 : Int32)) rfl (q := 3) rfl ?_
  refine g_icmp_ne C d16_3 (q' := 11) (q := 6) (by decide) (by decide) rfl (fun hy => absurd rfl hy) (fun hn => ?_)
  refine g_aloadN C d16_6 (v := (.ref a)) rfl rfl (q := 7) rfl ?_
  refine g_callP C (W := 0) (argsL := []) (rest := []) (a := a) d16_7 (wd104 hw) (wd105 hw) (wd60 hw) (wd108 hw) (by decide) (priv_of C (wd106 hw)) F.1 (Ctr.bk (c_grow0 l Z a0 cz De0 G a mc h0 n0 Z0 ga De SD fD AD X0 F) C (wd108 hw) (wd61 hw) (by decide) (by decide)) (by decide) (by decide) rfl (lenOf pd3 rfl) rfl rfl (q := 10) rfl (fun v1 h1 hQ1 => ?_)
  obtain ⟨r, rfl, gr, K1, F1, B1⟩ := hQ1
  refine ⟨[(.ref r)], rfl, ?_⟩
  refine g_astoreN C d16_10 rfl (L' := #[.val (.ref a), .val (.ref x), .val (.ref r), .val (.int (0 : Int32))]) rfl (q := 11) rfl ?_
  refine g_aloadN C d16_11 (v := (.ref r)) rfl rfl (q := 12) rfl ?_
  refine g_iloadN C d16_12 (v := (0 : Int32)) rfl (q := 13) rfl ?_
  refine g_aloadN C d16_13 (v := (.ref x)) rfl rfl (q := 14) rfl ?_
  refine g_aastore C d16_14 (i := 0) B1.av (by decide) rfl rfl (B1.sto (Ins.of_exa (Ex.keep K1) wOb)) (Nat.le_trans Z0 gr) (q := 15) rfl (fun h2 W2 B2 => ?_)
  have B2 := B1.set W2 (by decide)
  have ne : a ≠ r := fun q => by have := F.1.lt; rw [q] at this; exact absurd gr (Nat.not_le.mpr this)
  have F2 := F1.other W2 ne
  refine g_aloadN C d16_15 (v := (.ref a)) rfl rfl (q := 16) rfl ?_
  refine g_iloadN C d16_16 (v := (0 : Int32)) rfl (q := 17) rfl ?_
  refine g_iconst C d16_17 (z := (1 : Int32)) rfl (q := 18) rfl ?_
  refine g_iadd C d16_18 (q := 19) rfl ?_
  rw [show (0 : Int32) + 1 = 1 from rfl]
  refine g_putf C d16_19 (host := "") (Or.inl (wd97 hw)) Via.refl F2.2.2.1 F2.1 (Or.inl (wd98 hw)) (wd60 hw) (ty := .int) (by decide) rfl rfl ga (q := 22) rfl (fun h3 W3 => ?_)
  refine g_return C d16_22 (Nat.le_refl _) (by decide) (by decide) ⟨rfl, r, gr, (K1.wr W2 (Or.inr gr)).wr W3 (Or.inl (by simp)), F2.w1 hw W3, B2.other W3 (Ne.symm ne)⟩
set_option maxRecDepth 65536 in
set_option maxHeartbeats 40000000 in
theorem c_add3b (l : Launch) (Z : State) (a0 : Array Value) (cz : Int32) (De0 : Addr) (G : Gl Z a0 cz De0) (a ed : Addr) (mc : Value) (n : Nat) (g : Nat → Value) (h0 : Heap) (n0 : Nat) (Z0 : n0 ≤ h0.size) (ga : n0 ≤ a) (ge : n0 ≤ ed) (F : ALF Z h0 a (.ref ed) (.int (Int32.ofNat n)) mc) (B : Ao Z h0 ed "java/lang/Object" 10 g) (hn : n < 10) (ne : a ≠ ed) (x : Addr) (Cx0 : String) (Ex : Exa Z h0 x Cx0) (wOb : (Cond.castable Cx0 "java/lang/Object").before a0 Z = true) :
    Ctr l Z (⟨"java/util/ArrayList", "add", "(Ljava/lang/Object;[Ljava/lang/Object;I)V"⟩ : MethodName) jdk_38_method_24_code 4 none rmA3 #[(.ref a), (.ref x), (.ref ed), (.int (Int32.ofNat n))] h0 n0 (fun v h => v = none ∧ Keep h0 h [a, ed] ∧ ALF Z h a (.ref ed) (.int (Int32.ofNat (n + 1))) mc ∧ Ao Z h ed "java/lang/Object" 10 (fun j => if j = n then .ref x else g j)) := by
  have hw := G.1
  refine Ctr.of (n1 := n0) #[.val (.ref a), .val (.ref x), .val (.ref ed), .val (.int (Int32.ofNat n))] (plainFor_of_name pn2) (fun m => by first | (simp [entryFrame, mkF, argsToLocals, Value.category, maxLocals]; done) | rfl) ?_
  intro p e s m below meth c C
  refine g_iloadN C d16_0 (v := (Int32.ofNat n)) rfl (q := 1) rfl ?_
  refine g_aloadN C d16_1 (v := (.ref ed)) rfl rfl (q := 2) rfl ?_
  refine g_alen C d16_2 B.av (z := (10 : Int32)) rfl (q := 3) rfl ?_
  refine g_icmp_ne C d16_3 (q' := 11) (q := 6) (by decide) (by decide) rfl (fun hy => ?_) (fun hn_ => absurd (congrArg Int32.toInt hn_) (by rw [Int32.toInt_ofNat_of_lt (by omega)]; show ¬ ((n : Int) = 10); omega))
  refine g_aloadN C d16_11 (v := (.ref ed)) rfl rfl (q := 12) rfl ?_
  refine g_iloadN C d16_12 (v := (Int32.ofNat n)) rfl (q := 13) rfl ?_
  refine g_aloadN C d16_13 (v := (.ref x)) rfl rfl (q := 14) rfl ?_
  refine g_aastore C d16_14 (i := n) B.av hn rfl rfl (B.sto (Ins.of_exa Ex wOb)) ge (q := 15) rfl (fun h2 W2 B2 => ?_)
  have B2 := B.set W2 hn
  have F2 := F.other W2 ne
  refine g_aloadN C d16_15 (v := (.ref a)) rfl rfl (q := 16) rfl ?_
  refine g_iloadN C d16_16 (v := (Int32.ofNat n)) rfl (q := 17) rfl ?_
  refine g_iconst C d16_17 (z := (1 : Int32)) rfl (q := 18) rfl ?_
  refine g_iadd C d16_18 (q := 19) rfl ?_
  rw [show Int32.ofNat n + 1 = Int32.ofNat (n + 1) from by rw [Int32.ofNat_add]; rfl]
  refine g_putf C d16_19 (host := "") (Or.inl (wd97 hw)) Via.refl F2.2.2.1 F2.1 (Or.inl (wd98 hw)) (wd60 hw) (ty := .int) (by decide) rfl rfl ga (q := 22) rfl (fun h3 W3 => ?_)
  refine g_return C d16_22 (Nat.le_refl _) (by decide) (by decide) ⟨rfl, ((Keep.refl h0 [a, ed]).wr W2 (Or.inl (by simp))).wr W3 (Or.inl (by simp)), F2.w1 hw W3, B2.other W3 (Ne.symm ne)⟩
set_option maxRecDepth 65536 in
set_option maxHeartbeats 40000000 in
theorem c_adda (l : Launch) (Z : State) (a0 : Array Value) (cz : Int32) (De0 : Addr) (G : Gl Z a0 cz De0) (a : Addr) (m0 : Int32) (h0 : Heap) (n0 : Nat) (Z0 : n0 ≤ h0.size) (ga : n0 ≤ a) (De : Addr) (SD : Sta Z Z.heap "java/util/ArrayList" "DEFAULTCAPACITY_EMPTY_ELEMENTDATA" "[Ljava/lang/Object;" (.ref De)) (fD : Nat → Value) (AD : Av Z Z.heap De (.object "java/lang/Object") 0 fD) (X0 : Ext Z.heap h0) (F : ALF Z h0 a (.ref De) (.int 0) (.int m0)) (x : Addr) (Cx0 : String) (Ex : Exa Z h0 x Cx0) (wOb : (Cond.castable Cx0 "java/lang/Object").before a0 Z = true) (gz : Z.heap.size ≤ a) :
    Ctr l Z (⟨"java/util/ArrayList", "add", "(Ljava/lang/Object;)Z"⟩ : MethodName) jdk_38_method_25_code 2 (some .boolean) rmA1 #[(.ref a), (.ref x)] h0 n0 (fun v h => v = some (.int 1) ∧ ∃ r, h0.size ≤ r ∧ Keep h0 h [a] ∧ ALF Z h a (.ref r) (.int 1) (.int (m0 + 1)) ∧ Ao Z h r "java/lang/Object" 10 (fun j => if j = 0 then .ref x else .null)) := by
  have hw := G.1
  refine Ctr.of (n1 := n0) #[.val (.ref a), .val (.ref x)] (plainFor_of_name pn2) (fun m => by first | (simp [entryFrame, mkF, argsToLocals, Value.category, maxLocals]; done) | rfl) ?_
  intro p e s m below meth c C
  refine g_aloadN C d15_0 (v := (.ref a)) rfl rfl (q := 1) rfl ?_
  refine g_dup C d15_1 rfl (q := 2) rfl ?_
  refine g_getf C d15_2 (host := "") (Or.inl (wd95 hw)) (Via.of (wd96 hw)) F.2.2.2 (q := 5) rfl ?_
  refine g_iconst C d15_5 (z := (1 : Int32)) rfl (q := 6) rfl ?_
  refine g_iadd C d15_6 (q := 7) rfl ?_
  refine g_putf C d15_7 (host := "") (Or.inl (wd95 hw)) (Via.of (wd96 hw)) F.2.2.2 F.1 (Or.inl (wd79 hw)) (wd60 hw) (ty := .int) (by decide) rfl rfl ga (q := 10) rfl (fun h1 W1 => ?_)
  have F1 := F.w2 hw W1
  refine g_aloadN C d15_10 (v := (.ref a)) rfl rfl (q := 11) rfl ?_
  refine g_aloadN C d15_11 (v := (.ref x)) rfl rfl (q := 12) rfl ?_
  refine g_aloadN C d15_12 (v := (.ref a)) rfl rfl (q := 13) rfl ?_
  refine g_getf C d15_13 (host := "") (Or.inl (wd81 hw)) Via.refl F1.2.1 (q := 16) rfl ?_
  refine g_aloadN C d15_16 (v := (.ref a)) rfl rfl (q := 17) rfl ?_
  refine g_getf C d15_17 (host := "") (Or.inl (wd97 hw)) Via.refl F1.2.2.1 (q := 20) rfl ?_
  refine g_callP C (W := 0) (argsL := [(.ref x), (.ref De), (.int (0 : Int32))]) (rest := []) (a := a) d15_20 (wd99 hw) (wd100 hw) (wd60 hw) (wd103 hw) (by decide) (priv_of C (wd101 hw)) F1.1 (Ctr.bk (c_add3a l Z a0 cz De0 G a (.int (m0 + 1)) h1 n0 (by rw [W1.size]; exact Z0) ga De SD fD AD (Ext.wr X0 W1 gz) F1 x Cx0 (Ex.wr W1) wOb) C (wd103 hw) (wd61 hw) (by decide) (by decide)) (by decide) (by decide) rfl (lenOf pd4 rfl) rfl rfl (q := 23) rfl (fun v2 h2 hQ2 => ?_)
  obtain ⟨rfl, r, gr, K2, F2, B2⟩ := hQ2
  refine ⟨[], rfl, ?_⟩
  refine g_iconst C d15_23 (z := (1 : Int32)) rfl (q := 24) rfl ?_
  refine g_nreturn C d15_24 (by simp) rfl (Nat.le_refl _) (by decide) (by decide) ⟨rfl, r, by rw [← W1.size]; exact gr, (Keep.of_wr W1).trans K2 (fun x hx => Or.inl hx), F2, B2⟩
set_option maxRecDepth 65536 in
set_option maxHeartbeats 40000000 in
theorem c_addb (l : Launch) (Z : State) (a0 : Array Value) (cz : Int32) (De0 : Addr) (G : Gl Z a0 cz De0) (a ed : Addr) (m0 : Int32) (n : Nat) (g : Nat → Value) (h0 : Heap) (n0 : Nat) (Z0 : n0 ≤ h0.size) (ga : n0 ≤ a) (ge : n0 ≤ ed) (F : ALF Z h0 a (.ref ed) (.int (Int32.ofNat n)) (.int m0)) (B : Ao Z h0 ed "java/lang/Object" 10 g) (hn : n < 10) (ne : a ≠ ed) (x : Addr) (Cx0 : String) (Ex : Exa Z h0 x Cx0) (wOb : (Cond.castable Cx0 "java/lang/Object").before a0 Z = true) :
    Ctr l Z (⟨"java/util/ArrayList", "add", "(Ljava/lang/Object;)Z"⟩ : MethodName) jdk_38_method_25_code 2 (some .boolean) rmA1 #[(.ref a), (.ref x)] h0 n0 (fun v h => v = some (.int 1) ∧ Keep h0 h [a, ed] ∧ ALF Z h a (.ref ed) (.int (Int32.ofNat (n + 1))) (.int (m0 + 1)) ∧ Ao Z h ed "java/lang/Object" 10 (fun j => if j = n then .ref x else g j)) := by
  have hw := G.1
  refine Ctr.of (n1 := n0) #[.val (.ref a), .val (.ref x)] (plainFor_of_name pn2) (fun m => by first | (simp [entryFrame, mkF, argsToLocals, Value.category, maxLocals]; done) | rfl) ?_
  intro p e s m below meth c C
  refine g_aloadN C d15_0 (v := (.ref a)) rfl rfl (q := 1) rfl ?_
  refine g_dup C d15_1 rfl (q := 2) rfl ?_
  refine g_getf C d15_2 (host := "") (Or.inl (wd95 hw)) (Via.of (wd96 hw)) F.2.2.2 (q := 5) rfl ?_
  refine g_iconst C d15_5 (z := (1 : Int32)) rfl (q := 6) rfl ?_
  refine g_iadd C d15_6 (q := 7) rfl ?_
  refine g_putf C d15_7 (host := "") (Or.inl (wd95 hw)) (Via.of (wd96 hw)) F.2.2.2 F.1 (Or.inl (wd79 hw)) (wd60 hw) (ty := .int) (by decide) rfl rfl ga (q := 10) rfl (fun h1 W1 => ?_)
  have F1 := F.w2 hw W1
  refine g_aloadN C d15_10 (v := (.ref a)) rfl rfl (q := 11) rfl ?_
  refine g_aloadN C d15_11 (v := (.ref x)) rfl rfl (q := 12) rfl ?_
  refine g_aloadN C d15_12 (v := (.ref a)) rfl rfl (q := 13) rfl ?_
  refine g_getf C d15_13 (host := "") (Or.inl (wd81 hw)) Via.refl F1.2.1 (q := 16) rfl ?_
  refine g_aloadN C d15_16 (v := (.ref a)) rfl rfl (q := 17) rfl ?_
  refine g_getf C d15_17 (host := "") (Or.inl (wd97 hw)) Via.refl F1.2.2.1 (q := 20) rfl ?_
  refine g_callP C (W := 0) (argsL := [(.ref x), (.ref ed), (.int (Int32.ofNat n))]) (rest := []) (a := a) d15_20 (wd99 hw) (wd100 hw) (wd60 hw) (wd103 hw) (by decide) (priv_of C (wd101 hw)) F1.1 (Ctr.bk (c_add3b l Z a0 cz De0 G a ed (.int (m0 + 1)) n g h1 n0 (by rw [W1.size]; exact Z0) ga ge F1 (B.other W1 (Ne.symm ne)) hn ne x Cx0 (Ex.wr W1) wOb) C (wd103 hw) (wd61 hw) (by decide) (by decide)) (by decide) (by decide) rfl (lenOf pd4 rfl) rfl rfl (q := 23) rfl (fun v2 h2 hQ2 => ?_)
  obtain ⟨rfl, K2, F2, B2⟩ := hQ2
  refine ⟨[], rfl, ?_⟩
  refine g_iconst C d15_23 (z := (1 : Int32)) rfl (q := 24) rfl ?_
  refine g_nreturn C d15_24 (by simp) rfl (Nat.le_refl _) (by decide) (by decide) ⟨rfl, ((Keep.refl h0 [a, ed]).wr W1 (Or.inl (by simp))).trans K2 (fun x hx => Or.inl hx), F2, B2⟩
set_option maxRecDepth 65536 in
set_option maxHeartbeats 40000000 in
theorem c_chk (l : Launch) (Z : State) (a0 : Array Value) (cz : Int32) (De0 : Addr) (G : Gl Z a0 cz De0) (i n : Nat) (hi : i < n) (hnn : n < 2 ^ 31) (h0 : Heap) (n0 : Nat) :
    Ctr l Z (⟨"jdk/internal/util/Preconditions", "checkIndex", "(IILjava/util/function/BiFunction;)I"⟩ : MethodName) jdk_41_method_11_code 3 (some .int) rmE0 #[(.int (Int32.ofNat i)), (.int (Int32.ofNat n)), .null] h0 n0 (fun v h => h0 = h ∧ v = some (.int (Int32.ofNat i))) := by
  have hw := G.1
  refine Ctr.of (n1 := n0) #[.val (.int (Int32.ofNat i)), .val (.int (Int32.ofNat n)), .val .null] (plainFor_of_name pn3) (fun m => by first | (simp [entryFrame, mkF, argsToLocals, Value.category, maxLocals]; done) | rfl) ?_
  intro p e s m below meth c C
  refine g_iloadN C d22_0 (v := (Int32.ofNat i)) rfl (q := 1) rfl ?_
  refine g_if_lt C d22_1 (q' := 9) (q := 4) (by decide) (by decide) rfl (fun hy => absurd hy (nn32 (by omega))) (fun hn => ?_)
  refine g_iloadN C d22_4 (v := (Int32.ofNat i)) rfl (q := 5) rfl ?_
  refine g_iloadN C d22_5 (v := (Int32.ofNat n)) rfl (q := 6) rfl ?_
  refine g_icmp_lt C d22_6 (q' := 16) (q := 9) (by decide) (by decide) rfl (fun hy => ?_) (fun hn_ => absurd (by rw [Int32.lt_iff_toInt_lt, Int32.toInt_ofNat_of_lt (by omega), Int32.toInt_ofNat_of_lt hnn]; omega) hn_)
  refine g_iloadN C d22_16 (v := (Int32.ofNat i)) rfl (q := 17) rfl ?_
  refine g_ireturn C d22_17 (Nat.le_refl _) (by decide) (by decide) ⟨rfl, rfl⟩
set_option maxRecDepth 65536 in
set_option maxHeartbeats 40000000 in
theorem c_ochk (l : Launch) (Z : State) (a0 : Array Value) (cz : Int32) (De0 : Addr) (G : Gl Z a0 cz De0) (i n : Nat) (hi : i < n) (hnn : n < 2 ^ 31) (h0 : Heap) (n0 : Nat) :
    Ctr l Z (⟨"java/util/Objects", "checkIndex", "(II)I"⟩ : MethodName) jdk_31_method_17_code 2 (some .int) rmE1 #[(.int (Int32.ofNat i)), (.int (Int32.ofNat n))] h0 n0 (fun v h => h0 = h ∧ v = some (.int (Int32.ofNat i))) := by
  have hw := G.1
  refine Ctr.of (n1 := n0) #[.val (.int (Int32.ofNat i)), .val (.int (Int32.ofNat n))] (plainFor_of_name pn4) (fun m => by first | (simp [entryFrame, mkF, argsToLocals, Value.category, maxLocals]; done) | rfl) ?_
  intro p e s m below meth c C
  refine g_iloadN C d21_0 (v := (Int32.ofNat i)) rfl (q := 1) rfl ?_
  refine g_iloadN C d21_1 (v := (Int32.ofNat n)) rfl (q := 2) rfl ?_
  refine g_aconst_null C d21_2 (q := 3) rfl ?_
  refine g_callS C (W := 0) (argsL := [(.int (Int32.ofNat i)), (.int (Int32.ofNat n)), .null]) (rest := []) d21_3 (wd133 hw) (wd134 hw) (wd135 hw) (wd136 hw) (by decide) (Ctr.bk (c_chk l Z a0 cz De0 G i n hi hnn h0 n0) C (wd136 hw) (wd135 hw) (by decide) (by decide)) (by decide) (by decide) rfl (lenOf pd5 rfl) rfl rfl (q := 6) rfl (fun v1 h1 hQ1 => ?_)
  obtain ⟨rfl, rfl⟩ := hQ1
  refine ⟨[(.int (Int32.ofNat i))], rfl, ?_⟩
  refine g_ireturn C d21_6 (Nat.le_refl _) (by decide) (by decide) ⟨rfl, rfl⟩
set_option maxRecDepth 65536 in
set_option maxHeartbeats 40000000 in
theorem c_elem (l : Launch) (Z : State) (a0 : Array Value) (cz : Int32) (De0 : Addr) (G : Gl Z a0 cz De0) (a ed x : Addr) (v2 : Value) (n N i : Nat) (g : Nat → Value) (h0 : Heap) (n0 : Nat) (F : ALF Z h0 a (.ref ed) (.int (Int32.ofNat n)) v2) (B : Av Z h0 ed (.object "java/lang/Object") N g) (hi : i < n) (hnN : n ≤ N) (hN : N < 2 ^ 31) (gi : g i = .ref x) :
    Ctr l Z (⟨"java/util/ArrayList", "elementData", "(I)Ljava/lang/Object;"⟩ : MethodName) jdk_38_method_18_code 2 (some (.object "java/lang/Object")) rmE0 #[(.ref a), (.int (Int32.ofNat i))] h0 n0 (fun v h => h0 = h ∧ v = some (.ref x)) := by
  have hw := G.1
  refine Ctr.of (n1 := n0) #[.val (.ref a), .val (.int (Int32.ofNat i))] (plainFor_of_name pn2) (fun m => by first | (simp [entryFrame, mkF, argsToLocals, Value.category, maxLocals]; done) | rfl) ?_
  intro p e s m below meth c C
  refine g_aloadN C d23_0 (v := (.ref a)) rfl rfl (q := 1) rfl ?_
  refine g_getf C d23_1 (host := "") (Or.inl (wd81 hw)) Via.refl F.2.1 (q := 4) rfl ?_
  refine g_iloadN C d23_4 (v := (Int32.ofNat i)) rfl (q := 5) rfl ?_
  refine g_aaload C d23_5 (i := i) B rfl (by omega) rfl gi (q := 6) rfl ?_
  refine g_areturn C d23_6 rfl rfl (Nat.le_refl _) (by decide) (by decide) ⟨rfl, rfl⟩
set_option maxRecDepth 65536 in
set_option maxHeartbeats 40000000 in
theorem c_get (l : Launch) (Z : State) (a0 : Array Value) (cz : Int32) (De0 : Addr) (G : Gl Z a0 cz De0) (a ed x : Addr) (v2 : Value) (n N i : Nat) (g : Nat → Value) (h0 : Heap) (n0 : Nat) (F : ALF Z h0 a (.ref ed) (.int (Int32.ofNat n)) v2) (B : Av Z h0 ed (.object "java/lang/Object") N g) (hi : i < n) (hnN : n ≤ N) (hN : N < 2 ^ 31) (gi : g i = .ref x) :
    Ctr l Z (⟨"java/util/ArrayList", "get", "(I)Ljava/lang/Object;"⟩ : MethodName) jdk_38_method_20_code 2 (some (.object "java/lang/Object")) rmE2 #[(.ref a), (.int (Int32.ofNat i))] h0 n0 (fun v h => h0 = h ∧ v = some (.ref x)) := by
  have hw := G.1
  refine Ctr.of (n1 := n0) #[.val (.ref a), .val (.int (Int32.ofNat i))] (plainFor_of_name pn2) (fun m => by first | (simp [entryFrame, mkF, argsToLocals, Value.category, maxLocals]; done) | rfl) ?_
  intro p e s m below meth c C
  refine g_iloadN C d20_0 (v := (Int32.ofNat i)) rfl (q := 1) rfl ?_
  refine g_aloadN C d20_1 (v := (.ref a)) rfl rfl (q := 2) rfl ?_
  refine g_getf C d20_2 (host := "") (Or.inl (wd97 hw)) Via.refl F.2.2.1 (q := 5) rfl ?_
  refine g_callS C (W := 0) (argsL := [(.int (Int32.ofNat i)), (.int (Int32.ofNat n))]) (rest := []) d20_5 (wd129 hw) (wd130 hw) (wd131 hw) (wd132 hw) (by decide) (Ctr.bk (c_ochk l Z a0 cz De0 G i n hi (by omega) h0 n0) C (wd132 hw) (wd131 hw) (by decide) (by decide)) (by decide) (by decide) rfl (lenOf pd1 rfl) rfl rfl (q := 8) rfl (fun v1 h1 hQ1 => ?_)
  obtain ⟨rfl, rfl⟩ := hQ1
  refine ⟨[(.int (Int32.ofNat i))], rfl, ?_⟩
  refine g_pop C d20_8 rfl (q := 9) rfl ?_
  refine g_aloadN C d20_9 (v := (.ref a)) rfl rfl (q := 10) rfl ?_
  refine g_iloadN C d20_10 (v := (Int32.ofNat i)) rfl (q := 11) rfl ?_
  refine g_callV C (W := 0) (argsL := [(.int (Int32.ofNat i))]) (rest := []) (a := a) d20_11 (wd137 hw) (wd138 hw) (wd140 hw) (wd139 hw) (by decide) (nf_of C (wd140 hw)) F.1 (Ctr.bk (c_elem l Z a0 cz De0 G a ed x v2 n N i g h0 n0 F B hi hnN hN gi) C (wd141 hw) (wd61 hw) (by decide) (by decide)) (by decide) (by decide) rfl (lenOf pd6 rfl) rfl rfl (q := 14) rfl (fun v2 h2 hQ2 => ?_)
  obtain ⟨rfl, rfl⟩ := hQ2
  refine ⟨[(.ref x)], rfl, ?_⟩
  refine g_areturn C d20_14 rfl rfl (Nat.le_refl _) (by decide) (by decide) ⟨rfl, rfl⟩
def VF (Z : State) (h : Heap) (a : Addr) (v0 v1 : Value) : Prop := Exa Z h a "hornwright/model/Variable" ∧ Fld Z h a "hornwright/model/Variable" "name" "Ljava/lang/String;" v0 ∧ Fld Z h a "hornwright/model/Variable" "anonymous" "I" v1
theorem VF.ext {Z : State} {h h' : Heap} {a : Addr} {v0 v1 : Value} (F : VF Z h a v0 v1) (E : Ext h h') : VF Z h' a v0 v1 := ⟨F.1.ext E, F.2.1.ext E, F.2.2.ext E⟩
theorem VF.other {Z : State} {h h' : Heap} {a : Addr} {v0 v1 : Value} {b : Addr} {sl : Nat} {v : Value} (F : VF Z h a v0 v1) (W : Wr h h' b sl v) (ne : a ≠ b) : VF Z h' a v0 v1 := ⟨F.1.wr W, F.2.1.other W (Or.inl ne), F.2.2.other W (Or.inl ne)⟩
theorem VF.keep {Z : State} {h h' : Heap} {a : Addr} {v0 v1 : Value} {ws : List Addr} (F : VF Z h a v0 v1) (K : Keep h h' ws) (ne : a ∉ ws) : VF Z h' a v0 v1 := ⟨F.1.keep K, F.2.1.keep K ne, F.2.2.keep K ne⟩
theorem VF.w0 {Z : State} {h h' : Heap} {a : Addr} {v0 v1 : Value} {a0 : Array Value} {v : Value} (hw : ∀ d ∈ tables_1, d.before a0 Z = true) (F : VF Z h a v0 v1) (W : Wr h h' a (Jvm.RoadKit.slotOf Z "hornwright/model/Variable" "name" "Ljava/lang/String;") v) : VF Z h' a v v1 := ⟨F.1.wr W, F.2.1.same W, F.2.2.other W (Or.inr (slot_ne (Or.inr (wd45 hw)) (Or.inr (wd43 hw)) (by decide) (t := .int) (t' := (.object "java/lang/String")) (by decide) (by decide)))⟩
theorem VF.w1 {Z : State} {h h' : Heap} {a : Addr} {v0 v1 : Value} {a0 : Array Value} {v : Value} (hw : ∀ d ∈ tables_1, d.before a0 Z = true) (F : VF Z h a v0 v1) (W : Wr h h' a (Jvm.RoadKit.slotOf Z "hornwright/model/Variable" "anonymous" "I") v) : VF Z h' a v0 v := ⟨F.1.wr W, F.2.1.other W (Or.inr (slot_ne (Or.inr (wd43 hw)) (Or.inr (wd45 hw)) (by decide) (t := (.object "java/lang/String")) (t' := .int) (by decide) (by decide))), F.2.2.same W⟩
theorem and255_chars (x : Int32) : ¬ nar .char ((x &&& (255 : Int32)).toUInt32.toUInt16.toUInt32.toInt32) < 0 ∧ ¬ (255 : Int32) < nar .char ((x &&& (255 : Int32)).toUInt32.toUInt16.toUInt32.toInt32) := by
  have t : ∀ k : Fin 256, ¬ nar .char ((Int32.ofNat k.val).toUInt32.toUInt16.toUInt32.toInt32) < 0 ∧ ¬ (255 : Int32) < nar .char ((Int32.ofNat k.val).toUInt32.toUInt16.toUInt32.toInt32) := by decide +kernel
  have h : (x &&& 255).toBitVec.toNat < 256 := by
    simp only [Int32.toBitVec_and, BitVec.toNat_and]
    exact Nat.lt_succ_of_le Nat.and_le_right
  have e : (x &&& 255) = Int32.ofNat (x &&& 255).toBitVec.toNat := by
    apply Int32.toBitVec_inj.mp
    show _ = BitVec.ofNat 32 _
    rw [BitVec.ofNat_toNat]; simp
  rw [e]
  exact t ⟨_, h⟩
/-- new String(char[]) of Latin-1 chars, as a callee that pays -/
theorem bk_str {p : Program} {l : Launch} {e : Env} {R : Room} {s : State} {m : MethodId} {args : Array Value} {below : List Frame} {meth : Method} {c : Code} {Z : State} {a0 : Array Value} {h : Heap} {own nm : String} {code : ByteArray} {ml W : Nat} {ret : Option FieldType} (C : Cx p s m meth c Z own nm code ml ret) (hw : ∀ d ∈ tables_1, d.before a0 Z = true) (wi : (Jvm.Cond.instantiable "java/lang/String" 4).before a0 Z = true)
    {x b : Addr} {f : Nat → Value} {cs : List Int32} {v0 c0 : Value} {z : Int32} {n n0 : Nat} (hx0 : n0 ≤ x) (hh0 : n0 ≤ h.size) (E : Exa Z h x "java/lang/String") (V : Fld Z h x "java/lang/String" "value" "[B" v0) (K0 : Fld Z h x "java/lang/String" "coder" "B" c0) (A : Av Z h b .char n f) (hf : ∀ j, j < n → f j = (cs.map Value.int).getD j (.int 0)) (S : Sta Z h "java/lang/String" "COMPACT_STRINGS" "Z" (.int z)) (hz : ¬ z = 0)
    (hn : cs.length = n) (l0 : 0 < n) (l2 : n ≤ 4000) (hp : ∀ c ∈ cs, ¬ c < 0 ∧ ¬ (255 : Int32) < c) (hfr : 4 ≤ R.frames) (hlo : W + 65 ≤ R.locals) :
    BK l R p e below s args (⟨"java/lang/String", "<init>", "([C)V"⟩ : MethodName) 3 W #[.ref x, .ref b] h 1 n n0 (fun v h' => v = none ∧ Keep h h' [x] ∧ Exa Z h' x "java/lang/String" ∧ Fld Z h' x "java/lang/String" "coder" "B" (.int 0) ∧ ∃ (t : Addr) (kb : ClassId), n0 ≤ t ∧ h.size ≤ t ∧ ¬ t = x ∧ Fld Z h' x "java/lang/String" "value" "[B" (.ref t) ∧ Arv Z h' t kb .byte (Int32.ofNat n) ((cs.map fun c => c.toInt8.toInt32).map Value.int) (.int 0)) := by
  have hws : ∀ d ∈ StrChars.Road.words, d.before a0 Z = true := fun d hd => hw d ((by decide +kernel : ∀ d ∈ StrChars.Road.words, d ∈ tables_1) d hd)
  obtain ⟨kA, K⟩ := A.arv hf (fun j hj => by
    have hj' : j < cs.length := by omega
    have e1 : (cs.map Value.int).getD j (.int 0) = .int cs[j] := by simp [List.getD, hj']
    rw [e1]
    have q := hp _ (List.getElem_mem hj')
    have q1 := q.1; have q2 := q.2
    rw [Int32.lt_iff_toInt_lt] at q1 q2
    have e0 : (0 : Int32).toInt = 0 := rfl
    have e2 : (255 : Int32).toInt = 255 := rfl
    have e3 : (65535 : Int32).toInt = 65535 := rfl
    show (decide (0 ≤ cs[j]) && decide (cs[j] ≤ 65535)) = true
    rw [Bool.and_eq_true, decide_eq_true_eq, decide_eq_true_eq, Int32.le_iff_toInt_le, Int32.le_iff_toInt_le]
    omega)
  refine Back.mono (StrChars.Road.backV C.2.2.2.2.1 hws (kI := 4) wi (bs := cs.map fun c => c.toInt8.toInt32) hx0 hh0 E V K0 K S hz hn rfl l0 l2 hp rfl hfr hlo) (fun _ _ q => q) (fun P a v B _ hq => ?_)
  obtain ⟨L, ⟨q1, q2, q3, q4, q5, t, kb, q6, q7, q8, q9, q10⟩, hl, hc, hs⟩ := hq
  exact ⟨L, ⟨⟨q1, q3, q4, q5, t, kb, q6, q7, q8, q9, q10⟩, q2⟩, hl, hc, hs⟩
abbrev rmV1 : Room := { frames := 2, cells := 0, slots := 0, locals := 40 }
abbrev rmVn : Room := { frames := 3, cells := 1, slots := 2, locals := 64 }
abbrev rmOn : Room := { frames := 5, cells := 8, slots := 48, locals := 120 }
set_option maxRecDepth 65536 in
set_option maxHeartbeats 40000000 in
theorem c_recinit (l : Launch) (Z : State) (a0 : Array Value) (cz : Int32) (De0 : Addr) (G : Gl Z a0 cz De0) (a : Addr) (h0 : Heap) (n0 : Nat) :
    Ctr l Z (⟨"java/lang/Record", "<init>", "()V"⟩ : MethodName) jdk_30_method_1_code 1 none rmE1 #[(.ref a)] h0 n0 (fun v h => h0 = h ∧ v = none) := by
  have hw := G.1
  refine Ctr.of (n1 := n0) #[.val (.ref a)] (plainFor_of_name pn5) (fun m => by first | (simp [entryFrame, mkF, argsToLocals, Value.category, maxLocals]; done) | rfl) ?_
  intro p e s m below meth c C
  refine g_aloadN C d8_0 (v := (.ref a)) rfl rfl (q := 1) rfl ?_
  refine g_initO C d8_1 (wd41 hw) (wd12 hw) (wd13 hw) rfl (by decide) (W := 0) rfl (by decide) (q := 4) rfl ?_
  refine g_return C d8_4 (Nat.le_refl _) (by decide) (by decide) ⟨rfl, rfl⟩
set_option maxRecDepth 65536 in
set_option maxHeartbeats 40000000 in
theorem c_vinit (l : Launch) (Z : State) (a0 : Array Value) (cz : Int32) (De0 : Addr) (G : Gl Z a0 cz De0) (a nm : Addr) (k : Int32) (v0 v1 : Value) (h0 : Heap) (n0 : Nat) (ga : n0 ≤ a) (F : VF Z h0 a v0 v1) :
    Ctr l Z (⟨"hornwright/model/Variable", "<init>", "(Ljava/lang/String;I)V"⟩ : MethodName) prog_53_method_1_code 3 none rmV1 #[(.ref a), (.ref nm), (.int k)] h0 n0 (fun v h => v = none ∧ Keep h0 h [a] ∧ VF Z h a (.ref nm) (.int k)) := by
  have hw := G.1
  refine Ctr.of (n1 := n0) #[.val (.ref a), .val (.ref nm), .val (.int k)] (plainFor_of_name pn6) (fun m => by first | (simp [entryFrame, mkF, argsToLocals, Value.category, maxLocals]; done) | rfl) ?_
  intro p e s m below meth c C
  refine g_aloadN C d7_0 (v := (.ref a)) rfl rfl (q := 1) rfl ?_
  refine g_callI C (W := 0) (argsL := []) (rest := []) (a := a) d7_1 rfl (wd36 hw) (wd37 hw) (wd40 hw) (by decide) (Ctr.bk (c_recinit l Z a0 cz De0 G a h0 n0) C (wd40 hw) (wd39 hw) (by decide) (by decide)) (by decide) (by decide) rfl (lenOf pd0 rfl) rfl rfl (q := 4) rfl (fun v1 h1 hQ1 => ?_)
  obtain ⟨rfl, rfl⟩ := hQ1
  refine ⟨[], rfl, ?_⟩
  refine g_aloadN C d7_4 (v := (.ref a)) rfl rfl (q := 5) rfl ?_
  refine g_aloadN C d7_5 (v := (.ref nm)) rfl rfl (q := 6) rfl ?_
  refine g_putf C d7_6 (host := "") (Or.inl (wd42 hw)) Via.refl F.2.1 F.1 (Or.inr ⟨(wd43 hw), rfl, rfl⟩) (wd31 hw) (ty := (.object "java/lang/String")) (by decide) rfl rfl ga (q := 9) rfl (fun h2 W2 => ?_)
  have F := F.w0 hw W2
  refine g_aloadN C d7_9 (v := (.ref a)) rfl rfl (q := 10) rfl ?_
  refine g_iloadN C d7_10 (v := k) rfl (q := 11) rfl ?_
  refine g_putf C d7_11 (host := "") (Or.inl (wd44 hw)) Via.refl F.2.2 F.1 (Or.inr ⟨(wd45 hw), rfl, rfl⟩) (wd31 hw) (ty := .int) (by decide) rfl rfl ga (q := 14) rfl (fun h3 W3 => ?_)
  refine g_return C d7_14 (Nat.le_refl _) (by decide) (by decide) ⟨rfl, (Keep.of_wr W2).wr W3 (Or.inl (by simp)), F.w1 hw W3⟩
set_option maxRecDepth 65536 in
set_option maxHeartbeats 40000000 in
theorem c_anon (l : Launch) (Z : State) (a0 : Array Value) (cz : Int32) (De0 : Addr) (G : Gl Z a0 cz De0) (a : Addr) (k : Int32) (v0 : Value) (h0 : Heap) (n0 : Nat) (F : VF Z h0 a v0 (.int k)) :
    Ctr l Z (⟨"hornwright/model/Variable", "isAnonymous", "()Z"⟩ : MethodName) prog_53_method_4_code 1 (some .boolean) rmE0 #[(.ref a)] h0 n0 (fun v h => h0 = h ∧ v = some (.int (if k = 0 then 0 else 1))) := by
  have hw := G.1
  refine Ctr.of (n1 := n0) #[.val (.ref a)] (plainFor_of_name pn6) (fun m => by first | (simp [entryFrame, mkF, argsToLocals, Value.category, maxLocals]; done) | rfl) ?_
  intro p e s m below meth c C
  refine g_aloadN C d9_0 (v := (.ref a)) rfl rfl (q := 1) rfl ?_
  refine g_getf C d9_1 (host := "") (Or.inl (wd44 hw)) Via.refl F.2.2 (q := 4) rfl ?_
  refine g_if_eq C d9_4 (q' := 11) (q := 7) (by decide) (by decide) rfl (fun hy => ?_) (fun hn => ?_)
  ·
    refine g_iconst C d9_11 (z := (0 : Int32)) rfl (q := 12) rfl ?_
    refine g_nreturn C d9_12 (by simp) (z := 0) rfl (Nat.le_refl _) (by decide) (by decide) ⟨rfl, by rw [if_pos hy]⟩
  ·
    refine g_iconst C d9_7 (z := (1 : Int32)) rfl (q := 8) rfl ?_
    refine g_goto C d9_8 (q := 12) (by decide) (by decide) ?_
    refine g_nreturn C d9_12 (by simp) (z := 1) rfl (Nat.le_refl _) (by decide) (by decide) ⟨rfl, by rw [if_neg hn]⟩
set_option maxRecDepth 65536 in
set_option maxHeartbeats 40000000 in
theorem c_named (l : Launch) (Z : State) (a0 : Array Value) (cz : Int32) (De0 : Addr) (G : Gl Z a0 cz De0) (nm : Addr) (h0 : Heap) (n0 : Nat) (Z0 : n0 ≤ h0.size) :
    Ctr l Z (⟨"hornwright/model/Variable", "named", "(Ljava/lang/String;)Lhornwright/model/Variable;"⟩ : MethodName) prog_53_method_2_code 1 (some (.object "hornwright/model/Variable")) rmVn #[(.ref nm)] h0 n0 (fun v h => ∃ r, v = some (.ref r) ∧ h0.size ≤ r ∧ Keep h0 h [] ∧ VF Z h r (.ref nm) (.int 0)) := by
  have hw := G.1
  refine Ctr.of (n1 := n0) #[.val (.ref nm)] (plainFor_of_name pn6) (fun m => by first | (simp [entryFrame, mkF, argsToLocals, Value.category, maxLocals]; done) | rfl) ?_
  intro p e s m below meth c C
  refine g_new C d10_0 (wd54 hw) (wd31 hw) (wd32 hw) (by decide) (by decide) (q := 3) rfl (fun r h1 q1 E1 A1 D1 => ?_)
  refine g_dup C d10_3 rfl (q := 4) rfl ?_
  refine g_aloadN C d10_4 (v := (.ref nm)) rfl rfl (q := 5) rfl ?_
  refine g_iconst C d10_5 (z := (0 : Int32)) rfl (q := 6) rfl ?_
  refine g_callI C (W := 1) (argsL := [(.ref nm), (.int (0 : Int32))]) (rest := [(.ref r)]) (a := r) d10_6 rfl (wd55 hw) (wd34 hw) (wd35 hw) (by decide) (Ctr.bk (c_vinit l Z a0 cz De0 G r nm 0 .null (.int 0) h1 n0 (by rw [q1]; exact Z0) ⟨A1, D1 (Or.inr (wd43 hw)) (ty := (.object "java/lang/String")) (by decide), D1 (Or.inr (wd45 hw)) (ty := .int) (by decide)⟩) C (wd35 hw) (wd32 hw) (by decide) (by decide)) (by decide) (by decide) rfl (lenOf pd7 rfl) rfl rfl (q := 9) rfl (fun v2 h2 hQ2 => ?_)
  obtain ⟨rfl, K2, F2⟩ := hQ2
  refine ⟨[(.ref r)], rfl, ?_⟩
  refine g_areturn C d10_9 rfl rfl (Nat.le_refl _) (by decide) (by decide) ⟨r, rfl, by rw [q1]; exact Nat.le_refl _, (Ext.kp E1 []).trans K2 (fun x hx => Or.inr (by cases List.mem_singleton.mp hx; rw [q1]; exact Nat.le_refl _)), F2⟩
set_option maxRecDepth 65536 in
set_option maxHeartbeats 40000000 in
theorem c_only0 (l : Launch) (Z : State) (a0 : Array Value) (cz : Int32) (De0 : Addr) (G : Gl Z a0 cz De0) (v : Addr) (vn vk : Value) (h0 : Heap) (n0 : Nat) (Z0 : n0 ≤ h0.size) (X0 : Ext Z.heap h0) (V0 : VF Z h0 v vn vk) :
    CtrW l Z (⟨"hornwright/model/Variable", "onlyAt", "(IILhornwright/model/Variable;)Ljava/util/List;"⟩ : MethodName) prog_53_method_3_code 6 (some (.object "java/util/List")) rmOn #[(.int (2 : Int32)), (.int (0 : Int32)), (.ref v)] h0 n0 (fun vm => True) (fun v2 vm h => ∃ a1 r u, v2 = some (.ref a1) ∧ Keep h0 h [] ∧ (∃ mc, ALF Z h a1 (.ref r) (.int (Int32.ofNat 2)) mc) ∧ Av Z h r (.object "java/lang/Object") 10 (fun j => if j = 1 then .ref u else if j = 0 then .ref v else .null) ∧ VF Z h v vn vk ∧ ∃ un, VF Z h u un (.int (0 + 1))) := by
  have hw := G.1
  have G' := G
  obtain ⟨-, -, -, SD, fD, AD⟩ := G'
  have wS : ∀ a ∈ Bundle.stringAtoms, a.before a0 Z = true := fun d hd => hw d ((by decide +kernel : ∀ d ∈ Bundle.stringAtoms, d ∈ tables_1) d hd)
  refine CtrW.of (n1 := n0) #[.val (.int (2 : Int32)), .val (.int (0 : Int32)), .val (.ref v), .unset, .unset, .unset] (plainFor_of_name pn6) (fun m => by first | (simp [entryFrame, mkF, argsToLocals, Value.category, maxLocals]; done) | rfl) ?_
  intro p e s0 vm0 m below meth c C hs0 hP0 Sw
  refine g_new C d11_0 (wd59 hw) (wd60 hw) (wd61 hw) (by decide) (by decide) (q := 3) rfl (fun a1 h1 q1 E1 A1 D1 => ?_)
  refine g_dup C d11_3 rfl (q := 4) rfl ?_
  have ga : n0 ≤ a1 := by rw [q1]; exact Z0
  have gz : Z.heap.size ≤ a1 := by rw [q1]; exact X0.1
  refine g_callI C (W := 1) (argsL := []) (rest := [(.ref a1)]) (a := a1) d11_4 rfl (wd62 hw) (wd63 hw) (wd64 hw) (by decide) (Ctr.bk (c_alinit l Z a0 cz De0 G a1 .null (.int 0) (.int 0) h1 n0 ga ⟨A1, D1 (Or.inl (wd82 hw)) (ty := (.array (.object "java/lang/Object"))) (by decide), D1 (Or.inl (wd98 hw)) (ty := .int) (by decide), D1 (Or.inl (wd79 hw)) (ty := .int) (by decide)⟩ De0 SD (Ext.tr X0 E1) gz) C (wd64 hw) (wd61 hw) (by decide) (by decide)) (by decide) (by decide) rfl (lenOf pd0 rfl) rfl rfl (q := 7) rfl (fun v2 h2 hQ2 => ?_)
  obtain ⟨rfl, K2, L2⟩ := hQ2
  refine ⟨[(.ref a1)], rfl, ?_⟩
  have X2 := Ext.keep (Ext.tr X0 E1) K2 (fun x hx => by cases List.mem_singleton.mp hx; exact gz)
  have Z2 : n0 ≤ h2.size := Nat.le_trans (Nat.le_trans Z0 E1.1) K2.1
  have ltv : v < h0.size := V0.1.lt
  have nv : ¬ v = a1 := by rw [q1]; exact Nat.ne_of_lt ltv
  have V2 := (V0.ext E1).keep K2 (by simp [nv])
  have Kz := (Ext.kp E1 []).trans K2 (fun x hx => Or.inr (by cases List.mem_singleton.mp hx; rw [q1]; exact Nat.le_refl _))
  refine g_astoreN C d11_7 rfl (L' := #[.val (.int (2 : Int32)), .val (.int (0 : Int32)), .val (.ref v), .val (.ref a1), .unset, .unset]) rfl (q := 8) rfl ?_
  refine g_iconst C d11_8 (z := (0 : Int32)) rfl (q := 9) rfl ?_
  refine g_istore C d11_9 (L' := #[.val (.int (2 : Int32)), .val (.int (0 : Int32)), .val (.ref v), .val (.ref a1), .val (.int (0 : Int32)), .unset]) rfl (q := 11) rfl ?_
  refine g_iconst C d11_11 (z := (0 : Int32)) rfl (q := 12) rfl ?_
  refine g_istore C d11_12 (L' := #[.val (.int (2 : Int32)), .val (.int (0 : Int32)), .val (.ref v), .val (.ref a1), .val (.int (0 : Int32)), .val (.int (0 : Int32))]) rfl (q := 14) rfl ?_
  refine g_iload C d11_14 (v := (0 : Int32)) rfl (q := 16) rfl ?_
  refine g_iloadN C d11_16 (v := (2 : Int32)) rfl (q := 17) rfl ?_
  refine g_icmp_ge C d11_17 (q' := 57) (q := 20) (by decide) (by decide) rfl (fun hy => absurd (by decide) hy) (fun hn => ?_)
  refine g_aloadN C d11_20 (v := (.ref a1)) rfl rfl (q := 21) rfl ?_
  refine g_iload C d11_21 (v := (0 : Int32)) rfl (q := 23) rfl ?_
  refine g_iloadN C d11_23 (v := (0 : Int32)) rfl (q := 24) rfl ?_
  refine g_icmp_ne C d11_24 (q' := 31) (q := 27) (by decide) (by decide) rfl (fun hy => absurd rfl hy) (fun hn => ?_)
  refine g_aloadN C d11_27 (v := (.ref v)) rfl rfl (q := 28) rfl ?_
  refine g_goto C d11_28 (q := 45) (by decide) (by decide) ?_
  refine g_callF C (W := 0) (argsL := [(.ref v)]) (rest := []) (a := a1) d11_45 (wd86 hw) (wd87 hw) (wd88 hw) (wd89 hw) (wd90 hw) (wd91 hw) (wd92 hw) (wd93 hw) (by first | rfl | simp [Cond.onTables, Cond.keepsFace, Cond.keeps, Cond.steady]) (by decide) L2.1 (Ctr.bk (c_adda l Z a0 cz De0 G a1 0 h2 n0 Z2 ga De0 SD fD AD X2 L2 v "hornwright/model/Variable" V2.1 (wd120 hw) gz) C (wd94 hw) (wd61 hw) (by decide) (by decide)) (by decide) (by decide) rfl (lenOf pd8 rfl) rfl rfl (q := 50) rfl (fun v7 h7 hQ7 => ?_)
  obtain ⟨rfl, r, gr, K7, L7, B7⟩ := hQ7
  refine ⟨[(.int (1 : Int32))], rfl, ?_⟩
  have B3 := B7
  have X7 := Ext.keep X2 K7 (fun x hx => by cases List.mem_singleton.mp hx; exact gz)
  have Z7 : n0 ≤ h7.size := Nat.le_trans Z2 K7.1
  have V7 := V2.keep K7 (by simp [nv])
  have K8 := Kz.trans K7 (fun x hx => Or.inr (by cases List.mem_singleton.mp hx; rw [q1]; exact Nat.le_refl _))
  have gr0 : h0.size ≤ r := Nat.le_trans Kz.1 gr
  have nra : a1 ≠ r := fun e => by have := L2.1.lt; rw [e] at this; exact absurd gr (Nat.not_le.mpr this)
  refine g_pop C d11_50 rfl (q := 51) rfl ?_
  refine g_iinc C d11_51 rfl (L' := #[.val (.int (2 : Int32)), .val (.int (0 : Int32)), .val (.ref v), .val (.ref a1), .val (.int (0 : Int32)), .val (.int ((0 : Int32) + (1 : Int32)))]) rfl (q := 54) rfl ?_
  refine g_goto C d11_54 (q := 14) (by decide) (by decide) ?_
  refine g_iload C d11_14 (v := ((0 : Int32) + (1 : Int32))) rfl (q := 16) rfl ?_
  refine g_iloadN C d11_16 (v := (2 : Int32)) rfl (q := 17) rfl ?_
  refine g_icmp_ge C d11_17 (q' := 57) (q := 20) (by decide) (by decide) rfl (fun hy => absurd (by decide) hy) (fun hn => ?_)
  refine g_aloadN C d11_20 (v := (.ref a1)) rfl rfl (q := 21) rfl ?_
  refine g_iload C d11_21 (v := ((0 : Int32) + (1 : Int32))) rfl (q := 23) rfl ?_
  refine g_iloadN C d11_23 (v := (0 : Int32)) rfl (q := 24) rfl ?_
  refine g_icmp_ne C d11_24 (q' := 31) (q := 27) (by decide) (by decide) rfl (fun hy => ?_) (fun hn => absurd hn (by decide))
  refine g_new C d11_31 (wd54 hw) (wd31 hw) (wd32 hw) (by decide) (by decide) (q := 34) rfl (fun u h3 q3 E3 A3 D3 => ?_)
  refine g_dup C d11_34 rfl (q := 35) rfl ?_
  have gu : n0 ≤ u := by rw [q3]; exact Z7
  refine g_ldcN C (Sw.mono (Nat.le_trans K8.1 E3.1)) d11_35 (wd83 hw) wS (nn := 4) (by decide) (by decide) (by decide) (by decide) (q := 37) rfl (fun us vm1 h4 E4 C1 Sw1 => ?_)
  refine g_iinc C1 d11_37 rfl (L' := #[.val (.int (2 : Int32)), .val (.int (0 : Int32)), .val (.ref v), .val (.ref a1), .val (.int ((0 : Int32) + (1 : Int32))), .val (.int ((0 : Int32) + (1 : Int32)))]) rfl (q := 40) rfl ?_
  refine g_iload C1 d11_40 (v := ((0 : Int32) + (1 : Int32))) rfl (q := 42) rfl ?_
  refine g_callI C1 (W := 2) (argsL := [(.ref us), (.int ((0 : Int32) + (1 : Int32)))]) (rest := [(.ref u), (.ref a1)]) (a := u) d11_42 rfl (wd55 hw) (wd34 hw) (wd35 hw) (by decide) (Ctr.bk (c_vinit l Z a0 cz De0 G u us ((0 : Int32) + (1 : Int32)) .null (.int 0) h4 n0 gu (VF.ext ⟨A3, D3 (Or.inr (wd43 hw)) (ty := (.object "java/lang/String")) (by decide), D3 (Or.inr (wd45 hw)) (ty := .int) (by decide)⟩ E4)) C1 (wd35 hw) (wd32 hw) (by decide) (by decide)) (by decide) (by decide) rfl (lenOf pd7 rfl) rfl rfl (q := 45) rfl (fun v5 h5 hQ5 => ?_)
  obtain ⟨rfl, K5, U5⟩ := hQ5
  refine ⟨[(.ref u), (.ref a1)], rfl, ?_⟩
  have EE := Ext.tr E3 E4
  have L5 := (L7.ext EE).keep K5 (by
    intro hm
    cases List.mem_singleton.mp hm
    exact absurd L7.1.lt (by rw [q3]; exact Nat.lt_irrefl _))
  have V5 := (V7.ext EE).keep K5 (by
    intro hm
    cases List.mem_singleton.mp hm
    exact absurd V7.1.lt (by rw [q3]; exact Nat.lt_irrefl _))
  have gzu : Z.heap.size ≤ u := by rw [q3]; exact X7.1
  have X5 := Ext.keep (Ext.tr X7 EE) K5 (fun x hx => by cases List.mem_singleton.mp hx; exact gzu)
  have Z5 : n0 ≤ h5.size := Nat.le_trans (Nat.le_trans Z7 EE.1) K5.1
  have K6 := (K8.ext EE).trans K5 (fun x hx => Or.inr (by cases List.mem_singleton.mp hx; rw [q3]; exact K8.1))
  have B5 := (B3.ext EE).keep K5 (by
    intro hm
    cases List.mem_singleton.mp hm
    exact absurd B3.lt (by rw [q3]; exact Nat.lt_irrefl _))
  refine g_callF C1 (W := 0) (argsL := [(.ref u)]) (rest := []) (a := a1) d11_45 (wd86 hw) (wd87 hw) (wd88 hw) (wd89 hw) (wd90 hw) (wd91 hw) (wd92 hw) (wd93 hw) (by first | rfl | simp [Cond.onTables, Cond.keepsFace, Cond.keeps, Cond.steady]) (by decide) L5.1 (Ctr.bk (c_addb l Z a0 cz De0 G a1 r (0 + 1) 1 _ h5 n0 Z5 ga (Nat.le_trans Z0 gr0) L5 B5 (by decide) nra u "hornwright/model/Variable" U5.1 (wd120 hw)) C1 (wd94 hw) (wd61 hw) (by decide) (by decide)) (by decide) (by decide) rfl (lenOf pd8 rfl) rfl rfl (q := 50) rfl (fun v9 h9 hQ9 => ?_)
  obtain ⟨rfl, K9, L9, B9⟩ := hQ9
  refine ⟨[(.int (1 : Int32))], rfl, ?_⟩
  have nvr : ¬ v = r := fun e => by rw [e] at ltv; exact absurd gr0 (Nat.not_le.mpr ltv)
  have V9 := V5.keep K9 (by simp [nv, nvr])
  have K10 := K6.trans K9 (fun x hx => Or.inr (by
    simp only [List.mem_cons, List.not_mem_nil, or_false] at hx
    rcases hx with rfl | rfl
    · rw [q1]; exact Nat.le_refl _
    · exact gr0))
  have nu1 : ¬ u = a1 := fun e => by
    have l2 : a1 < h7.size := L7.1.lt
    rw [← e, q3] at l2
    exact absurd l2 (Nat.lt_irrefl _)
  have nur : ¬ u = r := fun e => by have l2 := B3.lt; rw [← e, q3] at l2; exact absurd l2 (Nat.lt_irrefl _)
  have U9 := U5.keep K9 (by simp [nu1, nur])
  refine g_pop C1 d11_50 rfl (q := 51) rfl ?_
  refine g_iinc C1 d11_51 rfl (L' := #[.val (.int (2 : Int32)), .val (.int (0 : Int32)), .val (.ref v), .val (.ref a1), .val (.int ((0 : Int32) + (1 : Int32))), .val (.int (((0 : Int32) + (1 : Int32)) + (1 : Int32)))]) rfl (q := 54) rfl ?_
  refine g_goto C1 d11_54 (q := 14) (by decide) (by decide) ?_
  refine g_iload C1 d11_14 (v := (((0 : Int32) + (1 : Int32)) + (1 : Int32))) rfl (q := 16) rfl ?_
  refine g_iloadN C1 d11_16 (v := (2 : Int32)) rfl (q := 17) rfl ?_
  refine g_icmp_ge C1 d11_17 (q' := 57) (q := 20) (by decide) (by decide) rfl (fun hy => ?_) (fun hn => absurd hn (by decide))
  refine g_aloadN C1 d11_57 (v := (.ref a1)) rfl rfl (q := 58) rfl ?_
  exact g_areturnW C1 (Sw1.mono (Nat.le_trans K5.1 K9.1)) d11_58 rfl rfl (Nat.le_refl _) (by decide) (by decide) (fun vm' hW => ⟨a1, r, u, rfl, K10, ⟨_, L9⟩, B9.av, V9, ⟨_, U9⟩⟩)
set_option maxRecDepth 65536 in
set_option maxHeartbeats 40000000 in
theorem c_only1 (l : Launch) (Z : State) (a0 : Array Value) (cz : Int32) (De0 : Addr) (G : Gl Z a0 cz De0) (v : Addr) (vn vk : Value) (h0 : Heap) (n0 : Nat) (Z0 : n0 ≤ h0.size) (X0 : Ext Z.heap h0) (V0 : VF Z h0 v vn vk) :
    CtrW l Z (⟨"hornwright/model/Variable", "onlyAt", "(IILhornwright/model/Variable;)Ljava/util/List;"⟩ : MethodName) prog_53_method_3_code 6 (some (.object "java/util/List")) rmOn #[(.int (2 : Int32)), (.int (1 : Int32)), (.ref v)] h0 n0 (fun vm => True) (fun v2 vm h => ∃ a1 r u, v2 = some (.ref a1) ∧ Keep h0 h [] ∧ (∃ mc, ALF Z h a1 (.ref r) (.int (Int32.ofNat 2)) mc) ∧ Av Z h r (.object "java/lang/Object") 10 (fun j => if j = 1 then .ref v else if j = 0 then .ref u else .null) ∧ VF Z h v vn vk ∧ ∃ un, VF Z h u un (.int (0 + 1))) := by
  have hw := G.1
  have G' := G
  obtain ⟨-, -, -, SD, fD, AD⟩ := G'
  have wS : ∀ a ∈ Bundle.stringAtoms, a.before a0 Z = true := fun d hd => hw d ((by decide +kernel : ∀ d ∈ Bundle.stringAtoms, d ∈ tables_1) d hd)
  refine CtrW.of (n1 := n0) #[.val (.int (2 : Int32)), .val (.int (1 : Int32)), .val (.ref v), .unset, .unset, .unset] (plainFor_of_name pn6) (fun m => by first | (simp [entryFrame, mkF, argsToLocals, Value.category, maxLocals]; done) | rfl) ?_
  intro p e s0 vm0 m below meth c C hs0 hP0 Sw
  refine g_new C d11_0 (wd59 hw) (wd60 hw) (wd61 hw) (by decide) (by decide) (q := 3) rfl (fun a1 h1 q1 E1 A1 D1 => ?_)
  refine g_dup C d11_3 rfl (q := 4) rfl ?_
  have ga : n0 ≤ a1 := by rw [q1]; exact Z0
  have gz : Z.heap.size ≤ a1 := by rw [q1]; exact X0.1
  refine g_callI C (W := 1) (argsL := []) (rest := [(.ref a1)]) (a := a1) d11_4 rfl (wd62 hw) (wd63 hw) (wd64 hw) (by decide) (Ctr.bk (c_alinit l Z a0 cz De0 G a1 .null (.int 0) (.int 0) h1 n0 ga ⟨A1, D1 (Or.inl (wd82 hw)) (ty := (.array (.object "java/lang/Object"))) (by decide), D1 (Or.inl (wd98 hw)) (ty := .int) (by decide), D1 (Or.inl (wd79 hw)) (ty := .int) (by decide)⟩ De0 SD (Ext.tr X0 E1) gz) C (wd64 hw) (wd61 hw) (by decide) (by decide)) (by decide) (by decide) rfl (lenOf pd0 rfl) rfl rfl (q := 7) rfl (fun v2 h2 hQ2 => ?_)
  obtain ⟨rfl, K2, L2⟩ := hQ2
  refine ⟨[(.ref a1)], rfl, ?_⟩
  have X2 := Ext.keep (Ext.tr X0 E1) K2 (fun x hx => by cases List.mem_singleton.mp hx; exact gz)
  have Z2 : n0 ≤ h2.size := Nat.le_trans (Nat.le_trans Z0 E1.1) K2.1
  have ltv : v < h0.size := V0.1.lt
  have nv : ¬ v = a1 := by rw [q1]; exact Nat.ne_of_lt ltv
  have V2 := (V0.ext E1).keep K2 (by simp [nv])
  have Kz := (Ext.kp E1 []).trans K2 (fun x hx => Or.inr (by cases List.mem_singleton.mp hx; rw [q1]; exact Nat.le_refl _))
  refine g_astoreN C d11_7 rfl (L' := #[.val (.int (2 : Int32)), .val (.int (1 : Int32)), .val (.ref v), .val (.ref a1), .unset, .unset]) rfl (q := 8) rfl ?_
  refine g_iconst C d11_8 (z := (0 : Int32)) rfl (q := 9) rfl ?_
  refine g_istore C d11_9 (L' := #[.val (.int (2 : Int32)), .val (.int (1 : Int32)), .val (.ref v), .val (.ref a1), .val (.int (0 : Int32)), .unset]) rfl (q := 11) rfl ?_
  refine g_iconst C d11_11 (z := (0 : Int32)) rfl (q := 12) rfl ?_
  refine g_istore C d11_12 (L' := #[.val (.int (2 : Int32)), .val (.int (1 : Int32)), .val (.ref v), .val (.ref a1), .val (.int (0 : Int32)), .val (.int (0 : Int32))]) rfl (q := 14) rfl ?_
  refine g_iload C d11_14 (v := (0 : Int32)) rfl (q := 16) rfl ?_
  refine g_iloadN C d11_16 (v := (2 : Int32)) rfl (q := 17) rfl ?_
  refine g_icmp_ge C d11_17 (q' := 57) (q := 20) (by decide) (by decide) rfl (fun hy => absurd (by decide) hy) (fun hn => ?_)
  refine g_aloadN C d11_20 (v := (.ref a1)) rfl rfl (q := 21) rfl ?_
  refine g_iload C d11_21 (v := (0 : Int32)) rfl (q := 23) rfl ?_
  refine g_iloadN C d11_23 (v := (1 : Int32)) rfl (q := 24) rfl ?_
  refine g_icmp_ne C d11_24 (q' := 31) (q := 27) (by decide) (by decide) rfl (fun hy => ?_) (fun hn => absurd hn (by decide))
  refine g_new C d11_31 (wd54 hw) (wd31 hw) (wd32 hw) (by decide) (by decide) (q := 34) rfl (fun u h3 q3 E3 A3 D3 => ?_)
  refine g_dup C d11_34 rfl (q := 35) rfl ?_
  have gu : n0 ≤ u := by rw [q3]; exact Z2
  refine g_ldcN C (Sw.mono (Nat.le_trans Kz.1 E3.1)) d11_35 (wd83 hw) wS (nn := 4) (by decide) (by decide) (by decide) (by decide) (q := 37) rfl (fun us vm1 h4 E4 C1 Sw1 => ?_)
  refine g_iinc C1 d11_37 rfl (L' := #[.val (.int (2 : Int32)), .val (.int (1 : Int32)), .val (.ref v), .val (.ref a1), .val (.int ((0 : Int32) + (1 : Int32))), .val (.int (0 : Int32))]) rfl (q := 40) rfl ?_
  refine g_iload C1 d11_40 (v := ((0 : Int32) + (1 : Int32))) rfl (q := 42) rfl ?_
  refine g_callI C1 (W := 2) (argsL := [(.ref us), (.int ((0 : Int32) + (1 : Int32)))]) (rest := [(.ref u), (.ref a1)]) (a := u) d11_42 rfl (wd55 hw) (wd34 hw) (wd35 hw) (by decide) (Ctr.bk (c_vinit l Z a0 cz De0 G u us ((0 : Int32) + (1 : Int32)) .null (.int 0) h4 n0 gu (VF.ext ⟨A3, D3 (Or.inr (wd43 hw)) (ty := (.object "java/lang/String")) (by decide), D3 (Or.inr (wd45 hw)) (ty := .int) (by decide)⟩ E4)) C1 (wd35 hw) (wd32 hw) (by decide) (by decide)) (by decide) (by decide) rfl (lenOf pd7 rfl) rfl rfl (q := 45) rfl (fun v5 h5 hQ5 => ?_)
  obtain ⟨rfl, K5, U5⟩ := hQ5
  refine ⟨[(.ref u), (.ref a1)], rfl, ?_⟩
  have EE := Ext.tr E3 E4
  have L5 := (L2.ext EE).keep K5 (by
    intro hm
    cases List.mem_singleton.mp hm
    exact absurd L2.1.lt (by rw [q3]; exact Nat.lt_irrefl _))
  have V5 := (V2.ext EE).keep K5 (by
    intro hm
    cases List.mem_singleton.mp hm
    exact absurd V2.1.lt (by rw [q3]; exact Nat.lt_irrefl _))
  have gzu : Z.heap.size ≤ u := by rw [q3]; exact X2.1
  have X5 := Ext.keep (Ext.tr X2 EE) K5 (fun x hx => by cases List.mem_singleton.mp hx; exact gzu)
  have Z5 : n0 ≤ h5.size := Nat.le_trans (Nat.le_trans Z2 EE.1) K5.1
  have K6 := (Kz.ext EE).trans K5 (fun x hx => Or.inr (by cases List.mem_singleton.mp hx; rw [q3]; exact Kz.1))
  refine g_callF C1 (W := 0) (argsL := [(.ref u)]) (rest := []) (a := a1) d11_45 (wd86 hw) (wd87 hw) (wd88 hw) (wd89 hw) (wd90 hw) (wd91 hw) (wd92 hw) (wd93 hw) (by first | rfl | simp [Cond.onTables, Cond.keepsFace, Cond.keeps, Cond.steady]) (by decide) L5.1 (Ctr.bk (c_adda l Z a0 cz De0 G a1 0 h5 n0 Z5 ga De0 SD fD AD X5 L5 u "hornwright/model/Variable" U5.1 (wd120 hw) gz) C1 (wd94 hw) (wd61 hw) (by decide) (by decide)) (by decide) (by decide) rfl (lenOf pd8 rfl) rfl rfl (q := 50) rfl (fun v7 h7 hQ7 => ?_)
  obtain ⟨rfl, r, gr, K7, L7, B7⟩ := hQ7
  refine ⟨[(.int (1 : Int32))], rfl, ?_⟩
  have B3 := B7
  have X7 := Ext.keep X5 K7 (fun x hx => by cases List.mem_singleton.mp hx; exact gz)
  have Z7 : n0 ≤ h7.size := Nat.le_trans Z5 K7.1
  have V7 := V5.keep K7 (by simp [nv])
  have K8 := K6.trans K7 (fun x hx => Or.inr (by cases List.mem_singleton.mp hx; rw [q1]; exact Nat.le_refl _))
  have gr0 : h0.size ≤ r := Nat.le_trans K6.1 gr
  have nra : a1 ≠ r := fun e => by have := L5.1.lt; rw [e] at this; exact absurd gr (Nat.not_le.mpr this)
  have U7 := U5.keep K7 (by
    intro hm
    have e := List.mem_singleton.mp hm
    have l1 := L5.1.lt
    have l2 : a1 < h2.size := L2.1.lt
    rw [← e, q3] at l2
    exact absurd l2 (Nat.lt_irrefl _))
  have nur : ¬ u = r := fun e => by have := U5.1.lt; rw [e] at this; exact absurd gr (Nat.not_le.mpr this)
  refine g_pop C1 d11_50 rfl (q := 51) rfl ?_
  refine g_iinc C1 d11_51 rfl (L' := #[.val (.int (2 : Int32)), .val (.int (1 : Int32)), .val (.ref v), .val (.ref a1), .val (.int ((0 : Int32) + (1 : Int32))), .val (.int ((0 : Int32) + (1 : Int32)))]) rfl (q := 54) rfl ?_
  refine g_goto C1 d11_54 (q := 14) (by decide) (by decide) ?_
  refine g_iload C1 d11_14 (v := ((0 : Int32) + (1 : Int32))) rfl (q := 16) rfl ?_
  refine g_iloadN C1 d11_16 (v := (2 : Int32)) rfl (q := 17) rfl ?_
  refine g_icmp_ge C1 d11_17 (q' := 57) (q := 20) (by decide) (by decide) rfl (fun hy => absurd (by decide) hy) (fun hn => ?_)
  refine g_aloadN C1 d11_20 (v := (.ref a1)) rfl rfl (q := 21) rfl ?_
  refine g_iload C1 d11_21 (v := ((0 : Int32) + (1 : Int32))) rfl (q := 23) rfl ?_
  refine g_iloadN C1 d11_23 (v := (1 : Int32)) rfl (q := 24) rfl ?_
  refine g_icmp_ne C1 d11_24 (q' := 31) (q := 27) (by decide) (by decide) rfl (fun hy => absurd rfl hy) (fun hn => ?_)
  refine g_aloadN C1 d11_27 (v := (.ref v)) rfl rfl (q := 28) rfl ?_
  refine g_goto C1 d11_28 (q := 45) (by decide) (by decide) ?_
  refine g_callF C1 (W := 0) (argsL := [(.ref v)]) (rest := []) (a := a1) d11_45 (wd86 hw) (wd87 hw) (wd88 hw) (wd89 hw) (wd90 hw) (wd91 hw) (wd92 hw) (wd93 hw) (by first | rfl | simp [Cond.onTables, Cond.keepsFace, Cond.keeps, Cond.steady]) (by decide) L7.1 (Ctr.bk (c_addb l Z a0 cz De0 G a1 r (0 + 1) 1 _ h7 n0 Z7 ga (Nat.le_trans Z0 gr0) L7 B3 (by decide) nra v "hornwright/model/Variable" V7.1 (wd120 hw)) C1 (wd94 hw) (wd61 hw) (by decide) (by decide)) (by decide) (by decide) rfl (lenOf pd8 rfl) rfl rfl (q := 50) rfl (fun v9 h9 hQ9 => ?_)
  obtain ⟨rfl, K9, L9, B9⟩ := hQ9
  refine ⟨[(.int (1 : Int32))], rfl, ?_⟩
  have nvr : ¬ v = r := fun e => by rw [e] at ltv; exact absurd gr0 (Nat.not_le.mpr ltv)
  have V9 := V7.keep K9 (by simp [nv, nvr])
  have K10 := K8.trans K9 (fun x hx => Or.inr (by
    simp only [List.mem_cons, List.not_mem_nil, or_false] at hx
    rcases hx with rfl | rfl
    · rw [q1]; exact Nat.le_refl _
    · exact gr0))
  have nu1 : ¬ u = a1 := fun e => by
    have l2 : a1 < h2.size := L2.1.lt
    rw [← e, q3] at l2
    exact absurd l2 (Nat.lt_irrefl _)
  have U9 := U7.keep K9 (by simp [nu1, nur])
  refine g_pop C1 d11_50 rfl (q := 51) rfl ?_
  refine g_iinc C1 d11_51 rfl (L' := #[.val (.int (2 : Int32)), .val (.int (1 : Int32)), .val (.ref v), .val (.ref a1), .val (.int ((0 : Int32) + (1 : Int32))), .val (.int (((0 : Int32) + (1 : Int32)) + (1 : Int32)))]) rfl (q := 54) rfl ?_
  refine g_goto C1 d11_54 (q := 14) (by decide) (by decide) ?_
  refine g_iload C1 d11_14 (v := (((0 : Int32) + (1 : Int32)) + (1 : Int32))) rfl (q := 16) rfl ?_
  refine g_iloadN C1 d11_16 (v := (2 : Int32)) rfl (q := 17) rfl ?_
  refine g_icmp_ge C1 d11_17 (q' := 57) (q := 20) (by decide) (by decide) rfl (fun hy => ?_) (fun hn => absurd hn (by decide))
  refine g_aloadN C1 d11_57 (v := (.ref a1)) rfl rfl (q := 58) rfl ?_
  exact g_areturnW C1 (Sw1.mono (Nat.le_trans K5.1 (Nat.le_trans K7.1 K9.1))) d11_58 rfl rfl (Nat.le_refl _) (by decide) (by decide) (fun vm' hW => ⟨a1, r, u, rfl, K10, ⟨_, L9⟩, B9.av, V9, ⟨_, U9⟩⟩)
set_option maxRecDepth 65536 in
set_option maxHeartbeats 40000000 in
theorem c_law (l : Launch) (Z : State) (a0 : Array Value) (cz : Int32) (De0 : Addr) (G : Gl Z a0 cz De0) (p0 p1 p2 p3 : Int32) (h0 : Heap) (n0 : Nat) (Z0 : n0 ≤ h0.size) (X0 : Ext Z.heap h0) :
    CtrW l Z Jvm.Pilot.@@N@@.x code maxLocals ret room_1 #[(.int p0), (.int p1), (.int p2), (.int p3)] h0 n0 (fun vm => IB Z vm []) (fun v vm h => v = some (.int 1)) := by
  have hw := G.1
  have G' := G
  obtain ⟨-, S0, hcz, -⟩ := G'
  refine CtrW.of (n1 := n0) #[.val (.int p0), .val (.int p1), .val (.int p2), .val (.int p3), .unset, .unset, .unset, .unset, .unset, .unset, .unset, .unset] (plainFor_of_name pn7) (fun m => by first | (simp [entryFrame, mkF, argsToLocals, Value.category, maxLocals]; done) | rfl) ?_
  intro p e s0 vm0 m below meth c C hs0 hP0 Sw
  have C : Cx p (s0.setVm vm0) m meth c Z "hornwright/model/VariableIsAnonymousPinLaw" "law" code 12 (some .boolean) := C
  refine g_iconst C at_0 (z := (2 : Int32)) rfl (q := 1) rfl ?_
  refine g_newarray C at_1 (wd0 hw) (by decide) (cap := 2) (by decide) (by decide) (by decide) (by decide) (q := 3) rfl (fun b1 h1 k1 q1 E1 A1 => ?_)
  have B1 : Av Z h1 b1 .char 2 (fun _ => .int 0) := Av.new A1 (by decide)
  have X1 := Ext.tr X0 E1
  have gb : n0 ≤ b1 := by rw [q1]; exact Z0
  have gzb : Z.heap.size ≤ b1 := by rw [q1]; exact X0.1
  refine g_dup C at_3 rfl (q := 4) rfl ?_
  refine g_iconst C at_4 (z := (0 : Int32)) rfl (q := 5) rfl ?_
  refine g_iloadN C at_5 (v := p1) rfl (q := 6) rfl ?_
  refine g_sipush C at_6 (z := (255 : Int32)) rfl (q := 9) rfl ?_
  refine g_iand C at_9 (q := 10) rfl ?_
  refine g_i2c C at_10 (q := 11) rfl ?_
  refine g_castore C at_11 (i := 0) B1 (by decide) rfl gb (q := 12) rfl (fun h2 W2 B2 => ?_)
  refine g_dup C at_12 rfl (q := 13) rfl ?_
  refine g_iconst C at_13 (z := (1 : Int32)) rfl (q := 14) rfl ?_
  refine g_iloadN C at_14 (v := p2) rfl (q := 15) rfl ?_
  refine g_sipush C at_15 (z := (255 : Int32)) rfl (q := 18) rfl ?_
  refine g_iand C at_18 (q := 19) rfl ?_
  refine g_i2c C at_19 (q := 20) rfl ?_
  refine g_castore C at_20 (i := 1) B2 (by decide) rfl gb (q := 21) rfl (fun h3 W3 B3 => ?_)
  refine g_astore C at_21 rfl (L' := #[.val (.int p0), .val (.int p1), .val (.int p2), .val (.int p3), .val (.ref b1), .unset, .unset, .unset, .unset, .unset, .unset, .unset]) rfl (q := 23) rfl ?_
  have X3 := Ext.wr (Ext.wr X1 W2 gzb) W3 gzb
  have K3 : Keep h0 h3 [] := ((Ext.kp E1 []).wr W2 (Or.inr (by rw [q1]; exact Nat.le_refl _))).wr W3 (Or.inr (by rw [q1]; exact Nat.le_refl _))
  have Z3 : n0 ≤ h3.size := Nat.le_trans Z0 K3.1
  refine g_new C at_23 (wd1 hw) (wd2 hw) (wd3 hw) (by decide) (by decide) (q := 26) rfl (fun sa h4 q4 E4 A4 D4 => ?_)
  refine g_dup C at_26 rfl (q := 27) rfl ?_
  refine g_aload C at_27 (v := (.ref b1)) rfl rfl (q := 29) rfl ?_
  have gs : n0 ≤ sa := by rw [q4]; exact Z3
  have gzs : Z.heap.size ≤ sa := by rw [q4]; exact X3.1
  have X4 := Ext.tr X3 E4
  have Z4 : n0 ≤ h4.size := Nat.le_trans Z3 E4.1
  have hpc : ∀ c ∈ ([nar .char ((p1 &&& (255 : Int32)).toUInt32.toUInt16.toUInt32.toInt32), nar .char ((p2 &&& (255 : Int32)).toUInt32.toUInt16.toUInt32.toInt32)] : List Int32), ¬ c < 0 ∧ ¬ (255 : Int32) < c := by
    intro c hc
    simp only [List.mem_cons, List.not_mem_nil, or_false] at hc
    rcases hc with rfl | rfl
    · exact and255_chars p1
    · exact and255_chars p2
  refine g_callI C (W := 1) (argsL := [(.ref b1)]) (rest := [(.ref sa)]) (a := sa) at_29 rfl (wd4 hw) (wd5 hw) (wd6 hw) (by decide) (bk_str (cs := [nar .char ((p1 &&& (255 : Int32)).toUInt32.toUInt16.toUInt32.toInt32), nar .char ((p2 &&& (255 : Int32)).toUInt32.toUInt16.toUInt32.toInt32)]) C hw (wd2 hw) gs Z4 A4 (D4 (Or.inr (wd29 hw)) (ty := .array .byte) (by decide)) (D4 (Or.inr (wd27 hw)) (ty := .byte) (by decide)) (B3.ext E4) (fun j hj => by
        obtain rfl | rfl : j = 0 ∨ j = 1 := by omega
        all_goals rfl) (S0.ext X4) hcz rfl (by decide) (by decide) hpc (by decide) (by decide)) (by decide) (by decide) rfl (lenOf pd9 rfl) rfl rfl (q := 32) rfl (fun v5 h5 hQ5 => ?_)
  obtain ⟨rfl, K5, E5, -⟩ := hQ5
  refine ⟨[(.ref sa)], rfl, ?_⟩
  have X5 := Ext.keep X4 K5 (fun x hx => by cases List.mem_singleton.mp hx; exact gzs)
  have Z5 : n0 ≤ h5.size := Nat.le_trans Z4 K5.1
  refine g_astore C at_32 rfl (L' := #[.val (.int p0), .val (.int p1), .val (.int p2), .val (.int p3), .val (.ref b1), .val (.ref sa), .unset, .unset, .unset, .unset, .unset, .unset]) rfl (q := 34) rfl ?_
  refine g_new C at_34 (wd30 hw) (wd31 hw) (wd32 hw) (by decide) (by decide) (q := 37) rfl (fun v1 h6 q6 E6 A6 D6 => ?_)
  refine g_dup C at_37 rfl (q := 38) rfl ?_
  refine g_aload C at_38 (v := (.ref sa)) rfl rfl (q := 40) rfl ?_
  refine g_iloadN C at_40 (v := p0) rfl (q := 41) rfl ?_
  refine g_callI C (W := 1) (argsL := [(.ref sa), (.int p0)]) (rest := [(.ref v1)]) (a := v1) at_41 rfl (wd33 hw) (wd34 hw) (wd35 hw) (by decide) (Ctr.bk (c_vinit l Z a0 cz De0 G v1 sa p0 .null (.int 0) h6 n0 (by rw [q6]; exact Z5) ⟨A6, D6 (Or.inr (wd43 hw)) (ty := (.object "java/lang/String")) (by decide), D6 (Or.inr (wd45 hw)) (ty := .int) (by decide)⟩) C (wd35 hw) (wd32 hw) (by decide) (by decide)) (by decide) (by decide) rfl (lenOf pd7 rfl) rfl rfl (q := 44) rfl (fun v7 h7 hQ7 => ?_)
  obtain ⟨rfl, K7, F7⟩ := hQ7
  refine ⟨[(.ref v1)], rfl, ?_⟩
  have X7 := Ext.keep (Ext.tr X5 E6) K7 (fun x hx => by cases List.mem_singleton.mp hx; rw [q6]; exact X5.1)
  have Z7 : n0 ≤ h7.size := Nat.le_trans (Nat.le_trans Z5 E6.1) K7.1
  refine g_callV C (W := 0) (argsL := []) (rest := []) (a := v1) at_44 (wd46 hw) (wd47 hw) (wd49 hw) (wd48 hw) (by decide) (nf_of C (wd49 hw)) F7.1 (Ctr.bk (c_anon l Z a0 cz De0 G v1 p0 _ h7 n0 F7) C (wd50 hw) (wd32 hw) (by decide) (by decide)) (by decide) (by decide) rfl (lenOf pd10 rfl) rfl rfl (q := 47) rfl (fun v8 h8 hQ8 => ?_)
  obtain ⟨rfl, rfl⟩ := hQ8
  refine ⟨[(.int (if p0 = 0 then 0 else 1))], rfl, ?_⟩
  refine g_iloadN C at_47 (v := p0) rfl (q := 48) rfl ?_
  refine Go.join (pc' := 64) (Ls' := #[.val (.int p0), .val (.int p1), .val (.int p2), .val (.int p3), .val (.ref b1), .val (.ref sa), .unset, .unset, .unset, .unset, .unset, .unset]) (st' := [.int 1]) ?_ (fun J => ?_)
  ·
    refine g_istore C at_64 (L' := #[.val (.int p0), .val (.int p1), .val (.int p2), .val (.int p3), .val (.ref b1), .val (.ref sa), .val (.int (1 : Int32)), .unset, .unset, .unset, .unset, .unset]) rfl (q := 66) rfl ?_
    refine g_aload C at_66 (v := (.ref sa)) rfl rfl (q := 68) rfl ?_
    refine g_callS C (W := 0) (argsL := [(.ref sa)]) (rest := []) at_68 (wd51 hw) (wd52 hw) (wd32 hw) (wd53 hw) (by decide) (Ctr.bk (c_named l Z a0 cz De0 G sa h7 n0 Z7) C (wd53 hw) (wd32 hw) (by decide) (by decide)) (by decide) (by decide) rfl (lenOf pd11 rfl) rfl rfl (q := 71) rfl (fun v8 h8 hQ8 => ?_)
    obtain ⟨v2, rfl, g8, K8, F8⟩ := hQ8
    refine ⟨[(.ref v2)], rfl, ?_⟩
    have X8 := Ext.keep X7 K8 (by simp)
    have Z8 : n0 ≤ h8.size := Nat.le_trans Z7 K8.1
    refine g_astore C at_71 rfl (L' := #[.val (.int p0), .val (.int p1), .val (.int p2), .val (.int p3), .val (.ref b1), .val (.ref sa), .val (.int (1 : Int32)), .val (.ref v2), .unset, .unset, .unset, .unset]) rfl (q := 73) rfl ?_
    refine g_aload C at_73 (v := (.ref v2)) rfl rfl (q := 75) rfl ?_
    refine g_callV C (W := 0) (argsL := []) (rest := []) (a := v2) at_75 (wd46 hw) (wd47 hw) (wd49 hw) (wd48 hw) (by decide) (nf_of C (wd49 hw)) F8.1 (Ctr.bk (c_anon l Z a0 cz De0 G v2 0 _ h8 n0 F8) C (wd50 hw) (wd32 hw) (by decide) (by decide)) (by decide) (by decide) rfl (lenOf pd10 rfl) rfl rfl (q := 78) rfl (fun v9 h9 hQ9 => ?_)
    obtain ⟨rfl, rfl⟩ := hQ9
    refine ⟨[(.int (0 : Int32))], rfl, ?_⟩
    refine g_if_ne C at_78 (q' := 85) (q := 81) (by decide) (by decide) rfl (fun hy => absurd rfl hy) (fun hn => ?_)
    refine g_iconst C at_81 (z := (1 : Int32)) rfl (q := 82) rfl ?_
    refine g_goto C at_82 (q := 86) (by decide) (by decide) ?_
    refine g_istore C at_86 (L' := #[.val (.int p0), .val (.int p1), .val (.int p2), .val (.int p3), .val (.ref b1), .val (.ref sa), .val (.int (1 : Int32)), .val (.ref v2), .val (.int (1 : Int32)), .unset, .unset, .unset]) rfl (q := 88) rfl ?_
    refine g_iloadN C at_88 (v := p3) rfl (q := 89) rfl ?_
    refine g_iconst C at_89 (z := (1 : Int32)) rfl (q := 90) rfl ?_
    refine g_iand C at_90 (q := 91) rfl ?_
    have Sw8 : Sn s0 vm0 h8 := Sw.mono (Nat.le_trans K3.1 (Nat.le_trans E4.1 (Nat.le_trans K5.1 (Nat.le_trans E6.1 (Nat.le_trans K7.1 K8.1)))))
    rcases Jvm.RoadKit.and_one p3 with e1 | e1
    ·
      rw [e1]
      refine g_istore C at_91 (L' := #[.val (.int p0), .val (.int p1), .val (.int p2), .val (.int p3), .val (.ref b1), .val (.ref sa), .val (.int (1 : Int32)), .val (.ref v2), .val (.int (1 : Int32)), .val (.int (0 : Int32)), .unset, .unset]) rfl (q := 93) rfl ?_
      refine g_iconst C at_93 (z := (2 : Int32)) rfl (q := 94) rfl ?_
      refine g_iload C at_94 (v := (0 : Int32)) rfl (q := 96) rfl ?_
      refine g_aload C at_96 (v := (.ref v2)) rfl rfl (q := 98) rfl ?_
      refine g_callSW C (W := 0) (argsL := [(.int (2 : Int32)), (.int (0 : Int32)), (.ref v2)]) (rest := []) Sw8 at_98 (wd56 hw) (wd57 hw) (wd32 hw) (wd58 hw) (by decide) (c_only0 l Z a0 cz De0 G v2 _ _ h8 n0 Z8 X8 F8) (by decide) (by decide) (by decide) (by decide) rfl (lenOf pd12 rfl) rfl rfl (q := 101) rfl (fun vm' hW' => trivial) (fun v10 vm1 h10 hQ10 C1 Sw1 hW3910 => ?_)
      obtain ⟨a1, r, u, rfl, K10, ⟨mc, L10⟩, B10, V10, un, U10⟩ := hQ10
      refine ⟨[(.ref a1)], rfl, ?_⟩
      refine g_astore C1 at_101 rfl (L' := #[.val (.int p0), .val (.int p1), .val (.int p2), .val (.int p3), .val (.ref b1), .val (.ref sa), .val (.int (1 : Int32)), .val (.ref v2), .val (.int (1 : Int32)), .val (.int (0 : Int32)), .val (.ref a1), .unset]) rfl (q := 103) rfl ?_
      refine g_aload C1 at_103 (v := (.ref a1)) rfl rfl (q := 105) rfl ?_
      refine g_iconst C1 at_105 (z := (0 : Int32)) rfl (q := 106) rfl ?_
      refine g_callF C1 (W := 0) (argsL := [(.int (0 : Int32))]) (rest := []) (a := a1) at_106 (wd121 hw) (wd122 hw) (wd123 hw) (wd124 hw) (wd125 hw) (wd126 hw) (wd127 hw) (wd93 hw) (by first | rfl | simp [Cond.onTables, Cond.keepsFace, Cond.keeps, Cond.steady]) (by decide) L10.1 (Ctr.bk (c_get l Z a0 cz De0 G a1 r v2 mc 2 10 0 _ h10 n0 L10 B10 (by decide) (by decide) (by decide) rfl) C1 (wd128 hw) (wd61 hw) (by decide) (by decide)) (by decide) (by decide) rfl (lenOf pd6 rfl) rfl rfl (q := 111) rfl (fun v11 h11 hQ11 => ?_)
      obtain ⟨rfl, rfl⟩ := hQ11
      refine ⟨[(.ref v2)], rfl, ?_⟩
      refine g_castY C1 at_111 (wd30 hw) (Ins.self V10.1) (q := 114) rfl ?_
      refine g_callV C1 (W := 0) (argsL := []) (rest := []) (a := v2) at_114 (wd46 hw) (wd47 hw) (wd49 hw) (wd48 hw) (by decide) (nf_of C1 (wd49 hw)) V10.1 (Ctr.bk (c_anon l Z a0 cz De0 G v2 0 _ h10 n0 V10) C1 (wd50 hw) (wd32 hw) (by decide) (by decide)) (by decide) (by decide) rfl (lenOf pd10 rfl) rfl rfl (q := 117) rfl (fun v11 h11 hQ11 => ?_)
      obtain ⟨rfl, rfl⟩ := hQ11
      refine ⟨[(.int (0 : Int32))], rfl, ?_⟩
      refine g_iload C1 at_117 (v := (0 : Int32)) rfl (q := 119) rfl ?_
      refine g_if_eq C1 at_119 (q' := 126) (q := 122) (by decide) (by decide) rfl (fun hy => ?_) (fun hn => absurd hn (by decide))
      refine g_iconst C1 at_126 (z := (0 : Int32)) rfl (q := 127) rfl ?_
      refine g_icmp_ne C1 at_127 (q' := 162) (q := 130) (by decide) (by decide) rfl (fun hy => absurd rfl hy) (fun hn => ?_)
      refine g_aload C1 at_130 (v := (.ref a1)) rfl rfl (q := 132) rfl ?_
      refine g_iconst C1 at_132 (z := (1 : Int32)) rfl (q := 133) rfl ?_
      refine g_callF C1 (W := 0) (argsL := [(.int (1 : Int32))]) (rest := []) (a := a1) at_133 (wd121 hw) (wd122 hw) (wd123 hw) (wd124 hw) (wd125 hw) (wd126 hw) (wd127 hw) (wd93 hw) (by first | rfl | simp [Cond.onTables, Cond.keepsFace, Cond.keeps, Cond.steady]) (by decide) L10.1 (Ctr.bk (c_get l Z a0 cz De0 G a1 r u mc 2 10 1 _ h10 n0 L10 B10 (by decide) (by decide) (by decide) rfl) C1 (wd128 hw) (wd61 hw) (by decide) (by decide)) (by decide) (by decide) rfl (lenOf pd6 rfl) rfl rfl (q := 138) rfl (fun v11 h11 hQ11 => ?_)
      obtain ⟨rfl, rfl⟩ := hQ11
      refine ⟨[(.ref u)], rfl, ?_⟩
      refine g_castY C1 at_138 (wd30 hw) (Ins.self U10.1) (q := 141) rfl ?_
      refine g_callV C1 (W := 0) (argsL := []) (rest := []) (a := u) at_141 (wd46 hw) (wd47 hw) (wd49 hw) (wd48 hw) (by decide) (nf_of C1 (wd49 hw)) U10.1 (Ctr.bk (c_anon l Z a0 cz De0 G u (0 + 1) _ h10 n0 U10) C1 (wd50 hw) (wd32 hw) (by decide) (by decide)) (by decide) (by decide) rfl (lenOf pd10 rfl) rfl rfl (q := 144) rfl (fun v11 h11 hQ11 => ?_)
      obtain ⟨rfl, rfl⟩ := hQ11
      refine ⟨[(.int (1 : Int32))], rfl, ?_⟩
      refine g_iload C1 at_144 (v := (0 : Int32)) rfl (q := 146) rfl ?_
      refine g_iconst C1 at_146 (z := (1 : Int32)) rfl (q := 147) rfl ?_
      refine g_icmp_eq C1 at_147 (q' := 154) (q := 150) (by decide) (by decide) rfl (fun hy => absurd hy (by decide)) (fun hn => ?_)
      refine g_iconst C1 at_150 (z := (1 : Int32)) rfl (q := 151) rfl ?_
      refine g_goto C1 at_151 (q := 155) (by decide) (by decide) ?_
      refine g_icmp_ne C1 at_155 (q' := 162) (q := 158) (by decide) (by decide) rfl (fun hy => absurd rfl hy) (fun hn => ?_)
      refine g_iconst C1 at_158 (z := (1 : Int32)) rfl (q := 159) rfl ?_
      refine g_goto C1 at_159 (q := 163) (by decide) (by decide) ?_
      refine g_istore C1 at_163 (L' := #[.val (.int p0), .val (.int p1), .val (.int p2), .val (.int p3), .val (.ref b1), .val (.ref sa), .val (.int (1 : Int32)), .val (.ref v2), .val (.int (1 : Int32)), .val (.int (0 : Int32)), .val (.ref a1), .val (.int (1 : Int32))]) rfl (q := 165) rfl ?_
      refine g_iload C1 at_165 (v := (1 : Int32)) rfl (q := 167) rfl ?_
      refine g_if_eq C1 at_167 (q' := 184) (q := 170) (by decide) (by decide) rfl (fun hy => absurd hy (by decide)) (fun hn => ?_)
      refine g_iload C1 at_170 (v := (1 : Int32)) rfl (q := 172) rfl ?_
      refine g_if_eq C1 at_172 (q' := 184) (q := 175) (by decide) (by decide) rfl (fun hy => absurd hy (by decide)) (fun hn => ?_)
      refine g_iload C1 at_175 (v := (1 : Int32)) rfl (q := 177) rfl ?_
      refine g_if_eq C1 at_177 (q' := 184) (q := 180) (by decide) (by decide) rfl (fun hy => absurd hy (by decide)) (fun hn => ?_)
      refine g_iconst C1 at_180 (z := (1 : Int32)) rfl (q := 181) rfl ?_
      refine g_goto C1 at_181 (q := 185) (by decide) (by decide) ?_
      exact g_nreturnW C1 Sw1 at_185 (by simp) (z := 1) rfl (Nat.le_refl _) (by decide) (by decide) (fun vm' hW => rfl)
    ·
      rw [e1]
      refine g_istore C at_91 (L' := #[.val (.int p0), .val (.int p1), .val (.int p2), .val (.int p3), .val (.ref b1), .val (.ref sa), .val (.int (1 : Int32)), .val (.ref v2), .val (.int (1 : Int32)), .val (.int (1 : Int32)), .unset, .unset]) rfl (q := 93) rfl ?_
      refine g_iconst C at_93 (z := (2 : Int32)) rfl (q := 94) rfl ?_
      refine g_iload C at_94 (v := (1 : Int32)) rfl (q := 96) rfl ?_
      refine g_aload C at_96 (v := (.ref v2)) rfl rfl (q := 98) rfl ?_
      refine g_callSW C (W := 0) (argsL := [(.int (2 : Int32)), (.int (1 : Int32)), (.ref v2)]) (rest := []) Sw8 at_98 (wd56 hw) (wd57 hw) (wd32 hw) (wd58 hw) (by decide) (c_only1 l Z a0 cz De0 G v2 _ _ h8 n0 Z8 X8 F8) (by decide) (by decide) (by decide) (by decide) rfl (lenOf pd12 rfl) rfl rfl (q := 101) rfl (fun vm' hW' => trivial) (fun v10 vm1 h10 hQ10 C1 Sw1 hW3910 => ?_)
      obtain ⟨a1, r, u, rfl, K10, ⟨mc, L10⟩, B10, V10, un, U10⟩ := hQ10
      refine ⟨[(.ref a1)], rfl, ?_⟩
      refine g_astore C1 at_101 rfl (L' := #[.val (.int p0), .val (.int p1), .val (.int p2), .val (.int p3), .val (.ref b1), .val (.ref sa), .val (.int (1 : Int32)), .val (.ref v2), .val (.int (1 : Int32)), .val (.int (1 : Int32)), .val (.ref a1), .unset]) rfl (q := 103) rfl ?_
      refine g_aload C1 at_103 (v := (.ref a1)) rfl rfl (q := 105) rfl ?_
      refine g_iconst C1 at_105 (z := (0 : Int32)) rfl (q := 106) rfl ?_
      refine g_callF C1 (W := 0) (argsL := [(.int (0 : Int32))]) (rest := []) (a := a1) at_106 (wd121 hw) (wd122 hw) (wd123 hw) (wd124 hw) (wd125 hw) (wd126 hw) (wd127 hw) (wd93 hw) (by first | rfl | simp [Cond.onTables, Cond.keepsFace, Cond.keeps, Cond.steady]) (by decide) L10.1 (Ctr.bk (c_get l Z a0 cz De0 G a1 r u mc 2 10 0 _ h10 n0 L10 B10 (by decide) (by decide) (by decide) rfl) C1 (wd128 hw) (wd61 hw) (by decide) (by decide)) (by decide) (by decide) rfl (lenOf pd6 rfl) rfl rfl (q := 111) rfl (fun v11 h11 hQ11 => ?_)
      obtain ⟨rfl, rfl⟩ := hQ11
      refine ⟨[(.ref u)], rfl, ?_⟩
      refine g_castY C1 at_111 (wd30 hw) (Ins.self U10.1) (q := 114) rfl ?_
      refine g_callV C1 (W := 0) (argsL := []) (rest := []) (a := u) at_114 (wd46 hw) (wd47 hw) (wd49 hw) (wd48 hw) (by decide) (nf_of C1 (wd49 hw)) U10.1 (Ctr.bk (c_anon l Z a0 cz De0 G u (0 + 1) _ h10 n0 U10) C1 (wd50 hw) (wd32 hw) (by decide) (by decide)) (by decide) (by decide) rfl (lenOf pd10 rfl) rfl rfl (q := 117) rfl (fun v11 h11 hQ11 => ?_)
      obtain ⟨rfl, rfl⟩ := hQ11
      refine ⟨[(.int (1 : Int32))], rfl, ?_⟩
      refine g_iload C1 at_117 (v := (1 : Int32)) rfl (q := 119) rfl ?_
      refine g_if_eq C1 at_119 (q' := 126) (q := 122) (by decide) (by decide) rfl (fun hy => absurd hy (by decide)) (fun hn => ?_)
      refine g_iconst C1 at_122 (z := (1 : Int32)) rfl (q := 123) rfl ?_
      refine g_goto C1 at_123 (q := 127) (by decide) (by decide) ?_
      refine g_icmp_ne C1 at_127 (q' := 162) (q := 130) (by decide) (by decide) rfl (fun hy => absurd rfl hy) (fun hn => ?_)
      refine g_aload C1 at_130 (v := (.ref a1)) rfl rfl (q := 132) rfl ?_
      refine g_iconst C1 at_132 (z := (1 : Int32)) rfl (q := 133) rfl ?_
      refine g_callF C1 (W := 0) (argsL := [(.int (1 : Int32))]) (rest := []) (a := a1) at_133 (wd121 hw) (wd122 hw) (wd123 hw) (wd124 hw) (wd125 hw) (wd126 hw) (wd127 hw) (wd93 hw) (by first | rfl | simp [Cond.onTables, Cond.keepsFace, Cond.keeps, Cond.steady]) (by decide) L10.1 (Ctr.bk (c_get l Z a0 cz De0 G a1 r v2 mc 2 10 1 _ h10 n0 L10 B10 (by decide) (by decide) (by decide) rfl) C1 (wd128 hw) (wd61 hw) (by decide) (by decide)) (by decide) (by decide) rfl (lenOf pd6 rfl) rfl rfl (q := 138) rfl (fun v11 h11 hQ11 => ?_)
      obtain ⟨rfl, rfl⟩ := hQ11
      refine ⟨[(.ref v2)], rfl, ?_⟩
      refine g_castY C1 at_138 (wd30 hw) (Ins.self V10.1) (q := 141) rfl ?_
      refine g_callV C1 (W := 0) (argsL := []) (rest := []) (a := v2) at_141 (wd46 hw) (wd47 hw) (wd49 hw) (wd48 hw) (by decide) (nf_of C1 (wd49 hw)) V10.1 (Ctr.bk (c_anon l Z a0 cz De0 G v2 0 _ h10 n0 V10) C1 (wd50 hw) (wd32 hw) (by decide) (by decide)) (by decide) (by decide) rfl (lenOf pd10 rfl) rfl rfl (q := 144) rfl (fun v11 h11 hQ11 => ?_)
      obtain ⟨rfl, rfl⟩ := hQ11
      refine ⟨[(.int (0 : Int32))], rfl, ?_⟩
      refine g_iload C1 at_144 (v := (1 : Int32)) rfl (q := 146) rfl ?_
      refine g_iconst C1 at_146 (z := (1 : Int32)) rfl (q := 147) rfl ?_
      refine g_icmp_eq C1 at_147 (q' := 154) (q := 150) (by decide) (by decide) rfl (fun hy => ?_) (fun hn => absurd rfl hn)
      refine g_iconst C1 at_154 (z := (0 : Int32)) rfl (q := 155) rfl ?_
      refine g_icmp_ne C1 at_155 (q' := 162) (q := 158) (by decide) (by decide) rfl (fun hy => absurd rfl hy) (fun hn => ?_)
      refine g_iconst C1 at_158 (z := (1 : Int32)) rfl (q := 159) rfl ?_
      refine g_goto C1 at_159 (q := 163) (by decide) (by decide) ?_
      refine g_istore C1 at_163 (L' := #[.val (.int p0), .val (.int p1), .val (.int p2), .val (.int p3), .val (.ref b1), .val (.ref sa), .val (.int (1 : Int32)), .val (.ref v2), .val (.int (1 : Int32)), .val (.int (1 : Int32)), .val (.ref a1), .val (.int (1 : Int32))]) rfl (q := 165) rfl ?_
      refine g_iload C1 at_165 (v := (1 : Int32)) rfl (q := 167) rfl ?_
      refine g_if_eq C1 at_167 (q' := 184) (q := 170) (by decide) (by decide) rfl (fun hy => absurd hy (by decide)) (fun hn => ?_)
      refine g_iload C1 at_170 (v := (1 : Int32)) rfl (q := 172) rfl ?_
      refine g_if_eq C1 at_172 (q' := 184) (q := 175) (by decide) (by decide) rfl (fun hy => absurd hy (by decide)) (fun hn => ?_)
      refine g_iload C1 at_175 (v := (1 : Int32)) rfl (q := 177) rfl ?_
      refine g_if_eq C1 at_177 (q' := 184) (q := 180) (by decide) (by decide) rfl (fun hy => absurd hy (by decide)) (fun hn => ?_)
      refine g_iconst C1 at_180 (z := (1 : Int32)) rfl (q := 181) rfl ?_
      refine g_goto C1 at_181 (q := 185) (by decide) (by decide) ?_
      exact g_nreturnW C1 Sw1 at_185 (by simp) (z := 1) rfl (Nat.le_refl _) (by decide) (by decide) (fun vm' hW => rfl)
  ·
    refine g_if_eq C at_48 (q' := 55) (q := 51) (by decide) (by decide) rfl (fun hz => ?_) (fun hnz => ?_)
    ·
      refine g_iconst C at_55 (z := (0 : Int32)) rfl (q := 56) rfl ?_
      rw [if_pos hz]
      refine g_icmp_ne C at_56 (q' := 63) (q := 59) (by decide) (by decide) rfl (fun hy => absurd rfl hy) (fun hn => ?_)
      refine g_iconst C at_59 (z := (1 : Int32)) rfl (q := 60) rfl ?_
      refine g_goto C at_60 (q := 64) (by decide) (by decide) ?_
      exact J
    ·
      refine g_iconst C at_51 (z := (1 : Int32)) rfl (q := 52) rfl ?_
      refine g_goto C at_52 (q := 56) (by decide) (by decide) ?_
      rw [if_neg hnz]
      refine g_icmp_ne C at_56 (q' := 63) (q := 59) (by decide) (by decide) rfl (fun hy => absurd rfl hy) (fun hn => ?_)
      refine g_iconst C at_59 (z := (1 : Int32)) rfl (q := 60) rfl ?_
      refine g_goto C at_60 (q := 64) (by decide) (by decide) ?_
      exact J
theorem eq_int' {t : Term} {n : Int32} {args : Array Value} {s : State} (h : (Cond.eq t (.int n)).before args s = true) : t.eval args s none [] s = some (.int n) := by
  have h := Cond.before_iff.mp h
  simp only [Cond.value, Term.int_eval] at h
  cases e : t.eval args s none [] s with
  | none => simp [e] at h
  | some v => cases v <;> simp [e] at h ⊢; exact h
theorem field_eval {t : Term} {C f d : String} {args : Array Value} {s : State} {a : Addr} (e : t.eval args s none [] s = some (.ref a)) : (Term.field t C f d).eval args s none [] s = s.fieldOf? a C f d := by
  simp [Term.eval, e]
theorem arr_len {t : Term} {ty : FieldType} {args : Array Value} {s : State} {a : Addr} {n : Nat} (hn : n < 2 ^ 31) (ev : t.eval args s none [] s = some (.ref a)) (h1 : (Cond.arrayOf t ty).before args s = true) (h2 : (Cond.eq (Term.length t) (.int (Int32.ofNat n))).before args s = true) : ∃ c : Cell, Arr s s.heap a c ty ∧ c.slots.size = n := by
  obtain ⟨c, A⟩ := Arr.start ev (Cond.before_iff.mp h1)
  refine ⟨c, A, ?_⟩
  have e := eq_int' h2
  have hc : s.arrayAt? a = some c := Arr.fin (Vm.Alike.refl _) A
  simp only [Term.eval, ev, hc, Option.bind_eq_bind, Option.bind_some, Option.pure_def] at e
  split at e
  · rename_i hlt
    have e2 := Value.int.inj (Option.some.inj e)
    have e3 := congrArg Int32.toInt e2
    rw [Int32.toInt_ofNat_of_lt hn, show c.slots.size.toInt32 = Int32.ofNat c.slots.size from rfl, Int32.toInt_ofNat_of_lt hlt] at e3
    omega
  · cases e
theorem arr_len0 {t : Term} {ty : FieldType} {args : Array Value} {s : State} {a : Addr} (ev : t.eval args s none [] s = some (.ref a)) (h1 : (Cond.arrayOf t ty).before args s = true) (h2 : (Cond.eq (Term.length t) (.int 0)).before args s = true) : ∃ f, Av s s.heap a ty 0 f := by
  obtain ⟨c, A, e⟩ := arr_len (n := 0) (by decide) ev h1 h2
  exact ⟨fun _ => .null, c, A, e, by decide, fun j hj => absurd hj (by omega)⟩
set_option maxRecDepth 65536 in
set_option maxHeartbeats 40000000 in
theorem comes_1 {Post : Tables → Env → Array Value → State → Outcome → State → Prop} (hpost : ∀ tb e args s v u, (limb_1_1.after args s (.returned v) u = true ∧ limb_1_2.after args s (.returned v) u = true ∧ True) → ReturnedEndW s (.returned v) u (Jvm.fieldLocs frame_1_writes args s ++ Jvm.arrayLocs frame_1_arrays args s ++ Jvm.staticLocs frame_1_statics s) 32 1152 → Post tb e args s (.returned v) u) :
    ArmFor flags0 classFile x code maxLocals ret World_1 tables_1 room_1 Calls_1 rest_1 Pre_1 Post := by
  intro l hfl _ _ p e ha hc hk s m args below hf hA hF happ hP
  obtain ⟨hcalls, hrest, hpre⟩ := hP
  obtain ⟨-, -, -, hnamed, -, -, -, hat⟩ := (Spec.applies_iff hf).mp happ
  obtain ⟨hg, hn⟩ := and_e (Cond.before_iff.mp (show (Jvm.Cond.and given_1 narrow_1).before args s = true from hpre))
  obtain ⟨hcount, hg0⟩ := and_e hg
  obtain ⟨ha0, hg1⟩ := and_e hg0
  obtain ⟨ha1, hg2⟩ := and_e hg1
  obtain ⟨ha2, hg3⟩ := and_e hg2
  have ha3 := hg3
  obtain ⟨w0, w1, w2, w3, rfl⟩ : ∃ w0 w1 w2 w3 : Value, args = #[w0, w1, w2, w3] := by
    have hs : args.size = 4 := by simpa [Cond.value, given_1] using hcount
    obtain ⟨L⟩ := args
    match L, hs with
    | [w0, w1, w2, w3], _ => exact ⟨w0, w1, w2, w3, rfl⟩
  have hw := fun d (hd : d ∈ tables_1) => atoms_spec (ws := Jvm.Cond.code x code maxLocals ret :: tables_1) hat d (List.mem_cons_of_mem _ hd)
  obtain ⟨hsets, hown0⟩ := atoms_of _ (rest_1_c_eq ▸ (show rest_1_c.before _ s = true from hrest))
  have hfit : Fit s := fun {y c} hc i hi => by
    obtain ⟨ha, rfl⟩ := Array.getElem?_eq_some_iff.mp hc
    have q := List.all_eq_true.mp ((Array.all_eq_true_iff_forall_mem.mp hF) _ (Array.getElem_mem ha)) i (List.mem_range.mpr hi)
    simpa [Array.getElem?_eq_getElem hi] using q
  obtain ⟨x0, ea0⟩ := is_v ha0
  obtain rfl : w0 = (.int x0) := Option.some.inj ea0
  obtain ⟨x1, ea1⟩ := is_v ha1
  obtain rfl : w1 = (.int x1) := Option.some.inj ea1
  obtain ⟨x2, ea2⟩ := is_v ha2
  obtain rfl : w2 = (.int x2) := Option.some.inj ea2
  obtain ⟨x3, ea3⟩ := is_v ha3
  obtain rfl : w3 = (.int x3) := Option.some.inj ea3
  have n5 := not_v (Cond.before_iff.mp (hsets _ (List.mem_of_getElem? (i := 2) rfl)))
  obtain ⟨cz, e10⟩ := is_v (Cond.before_iff.mp (hsets _ (List.mem_of_getElem? (i := 1) rfl)))
  have S0 : Sta s s.heap "java/lang/String" "COMPACT_STRINGS" "Z" (.int cz) := Sta.start e10 (Or.inl (hsets _ (List.mem_of_getElem? (i := 0) rfl)))
  have hcz : ¬ (cz = (0 : Int32)) := gotF (Cond.eq_ints e10 (Term.int_eval (0))) n5
  obtain ⟨De, -, -, -, eD, -⟩ := Cond.exactly_spec (hsets _ (List.mem_of_getElem? (i := 16) rfl))
  have SD := Sta.start eD (Or.inr ⟨(wd61 hw), hsets _ (List.mem_of_getElem? (i := 11) rfl)⟩)
  have AD := arr_len0 eD (hsets _ (List.mem_of_getElem? (i := 15) rfl)) (hsets _ (List.mem_of_getElem? (i := 17) rfl))
  obtain ⟨n, o, h1, h2, h3, _, L, rfl, ⟨rfl, N⟩, hq⟩ := c_law l s _ cz De ⟨hw, S0, hcz, SD, AD⟩ x0 x1 x2 x3 s.heap s.heap.size (Nat.le_refl _) (Ext.rfl' _) p e ha hc hk s m _ below hf (app_less hf ((Spec.applies_iff_loose hf).mp happ).1) ⟨rfl, State.Warmed39.refl s, rfl, IB.start⟩ trivial
  refine ⟨n, _, h1, h2, h3, hpost _ _ _ _ _ _ ⟨Cond.after_iff.mpr rfl, Cond.after_iff.mpr (eq_i res_at (Term.int_eval (1)) rfl), trivial⟩ ⟨hq.1, hq.2.1, hq.2.2.1, (hq.2.2.2.sift fun y hy => Or.inr (N y hy)).mono (by decide) (by decide)⟩⟩
theorem main_1_1 : Claimed_1_1 := comes_1 fun _ _ _ _ _ _ h hF => ⟨h.1, hF⟩
theorem main_1_2 : Claimed_1_2 := comes_1 fun _ _ _ _ _ _ h hF => ⟨h.2.1, hF⟩
end Jvm.Pilot.@@N@@
namespace Jvm.Pilot.@@N@@
open Jvm Jvm.ClassFile Sem Op Lib Jvm.Free Jvm.Stand Jvm.Pilot.@@N@@.Jvm.D
/-! MADE BY PROGRAM (witnessworld.py) out of the Statement's table words and the real class files: 33 classes; the members and pool entries that the words name. The judged class is class 1, her method 1. -/
namespace start1
open Jvm.ClassFile
def u (s : String) : CpInfo := .utf8 (stringToUtf16 s)
/-- a pool by its gaps: so many unusable entries, then the entry; so many at the end -/
def gap : Nat → List CpInfo → List CpInfo
  | 0, r => r
  | n + 1, r => .unusable :: gap n r
def poolList (es : List (Nat × CpInfo)) (last : Nat) : List CpInfo := es.foldr (fun e r => gap e.1 (e.2 :: r)) (gap last [])
def pool (es : List (Nat × CpInfo)) (last : Nat) : Array CpInfo := ⟨poolList es last⟩
def fileOf (pool : Array CpInfo) (this : Nat) (attrs : Array Attribute := #[]) (ms : Array MethodInfo := #[]) (fl : Nat := 33) (sup : Nat := 0) (ifs : Array Nat := #[]) (fds : Array FieldInfo := #[]) : ClassFile where
  minorVersion := 0
  majorVersion := 65
  constantPool := pool
  accessFlags := fl
  thisClass := this
  superClass := sup
  interfaces := ifs
  fields := fds
  methods := ms
  attributes := attrs
def plain (name : String) (sup : Option ClassId) : Class where
  name := name
  kind := .ordinary
  loader := none
  accessFlags := 33
  super := sup
  interfaces := #[]
  cf := none
  fields := #[]
  methods := #[]
  instanceTypes := #[]
  staticTypes := #[]
  resolved := #[]
  callSites := []
  init := .initialized
  statics := none
  mirror := none

def pool0 : Array CpInfo := pool [(5, u "<init>"), (0, u "()V"), (1, .class_ 10), (1, u "java/lang/Object")] 113

def k0c0 : Code := { maxStack := 0, maxLocals := 1, code := object_method_1_code, exceptionTable := #[], attributes := #[] }
def k0m0 : Method := { name := "<init>", desc := "()V", sig := { parameters := [], returnType := none }, accessFlags := 1, code := some k0c0 }
/-- java/lang/Object -/
def k0 : Class := { plain "java/lang/Object" none with
  accessFlags := 33
  interfaces := #[]
  cf := some (fileOf pool0 8 #[] #[{ accessFlags := 1, nameIndex := 5, descriptorIndex := 6, attributes := #[] }] 33 0 #[] #[])
  fields := #[]
  methods := #[k0m0]
  instanceTypes := #[]
  staticTypes := #[]
  resolved := Array.replicate 124 none
  statics := none }

def pool1 : Array CpInfo := pool [(2, .class_ 4), (1, u "java/lang/Object"), (0, u "<init>"), (0, u "()V"), (0, .class_ 8), (0, u "java/lang/String"), (0, .methodref 7 10), (0, .nameAndType 5 11), (0, u "([C)V"), (0, .class_ 13), (0, u "hornwright/model/Variable"), (0, .methodref 12 15), (0, .nameAndType 5 16), (0, u "(Ljava/lang/String;I)V"), (0, .methodref 12 18), (0, .nameAndType 19 20), (0, u "isAnonymous"), (0, u "()Z"), (0, .methodref 12 22), (0, .nameAndType 23 24), (0, u "named"), (0, u "(Ljava/lang/String;)Lhornwright/model/Variable;"), (0, .methodref 12 26), (0, .nameAndType 27 28), (0, u "onlyAt"), (0, u "(IILhornwright/model/Variable;)Ljava/util/List;"), (0, .interfaceMethodref 30 31), (0, .class_ 32), (0, .nameAndType 33 34), (0, u "java/util/List"), (0, u "get"), (0, u "(I)Ljava/lang/Object;"), (0, .class_ 36), (0, u "hornwright/model/VariableIsAnonymousPinLaw"), (2, u "law"), (0, u "(IIII)Z")] 5

def k1m0 : Method := { name := "<init>", desc := "()V", sig := { parameters := [], returnType := none }, accessFlags := 1, code := none }
def k1c1 : Code := { maxStack := 5, maxLocals := 12, code := code, exceptionTable := #[], attributes := #[] }
def k1m1 : Method := { name := "law", desc := "(IIII)Z", sig := { parameters := [.int, .int, .int, .int], returnType := some .boolean }, accessFlags := 9, code := some k1c1 }
/-- hornwright/model/VariableIsAnonymousPinLaw -/
def k1 : Class := { plain "hornwright/model/VariableIsAnonymousPinLaw" (some 0) with
  accessFlags := 49
  interfaces := #[]
  cf := some (fileOf pool1 35 #[] #[{ accessFlags := 1, nameIndex := 5, descriptorIndex := 6, attributes := #[] }, { accessFlags := 9, nameIndex := 39, descriptorIndex := 40, attributes := #[] }] 49 2 #[] #[])
  fields := #[]
  methods := #[k1m0, k1m1]
  instanceTypes := #[]
  staticTypes := #[]
  resolved := Array.replicate 46 none
  statics := none }

def pool2 : Array CpInfo := pool [(1, .class_ 2), (0, u "java/io/Serializable"), (0, .class_ 4), (0, u "java/lang/Object")] 2

/-- java/io/Serializable -/
def k2 : Class := { plain "java/io/Serializable" (some 0) with
  accessFlags := 1537
  interfaces := #[]
  cf := some (fileOf pool2 1 #[] #[] 1537 3 #[] #[])
  fields := #[]
  methods := #[]
  instanceTypes := #[]
  staticTypes := #[]
  resolved := Array.replicate 7 none
  statics := none }

def pool3 : Array CpInfo := pool [(1, .class_ 2), (0, u "java/lang/Comparable"), (0, .class_ 4), (0, u "java/lang/Object")] 7

/-- java/lang/Comparable -/
def k3 : Class := { plain "java/lang/Comparable" (some 0) with
  accessFlags := 1537
  interfaces := #[]
  cf := some (fileOf pool3 1 #[] #[] 1537 3 #[] #[])
  fields := #[]
  methods := #[]
  instanceTypes := #[]
  staticTypes := #[]
  resolved := Array.replicate 12 none
  statics := none }

def pool4 : Array CpInfo := pool [(2, .class_ 4), (1, u "java/lang/CharSequence"), (42, .class_ 48), (0, u "java/lang/CharSequence$1CodePointIterator"), (10, .class_ 60), (0, u "java/lang/CharSequence$1CharIterator"), (5, .class_ 67), (0, u "java/lang/Object")] 63

/-- java/lang/CharSequence -/
def k4 : Class := { plain "java/lang/CharSequence" (some 0) with
  accessFlags := 1537
  interfaces := #[]
  cf := some (fileOf pool4 2 #[.nestMembers #[47, 59]] #[] 1537 66 #[] #[])
  fields := #[]
  methods := #[]
  instanceTypes := #[]
  staticTypes := #[]
  resolved := Array.replicate 131 none
  statics := none }

def pool5 : Array CpInfo := pool [(1, .class_ 2), (0, u "java/lang/constant/Constable"), (0, .class_ 4), (0, u "java/lang/Object")] 6

/-- java/lang/constant/Constable -/
def k5 : Class := { plain "java/lang/constant/Constable" (some 0) with
  accessFlags := 1537
  interfaces := #[]
  cf := some (fileOf pool5 1 #[] #[] 1537 3 #[] #[])
  fields := #[]
  methods := #[]
  instanceTypes := #[]
  staticTypes := #[]
  resolved := Array.replicate 11 none
  statics := none }

def pool6 : Array CpInfo := pool [(1, .class_ 2), (0, u "java/lang/constant/ConstantDesc"), (0, .class_ 4), (0, u "java/lang/Object")] 32

/-- java/lang/constant/ConstantDesc -/
def k6 : Class := { plain "java/lang/constant/ConstantDesc" (some 0) with
  accessFlags := 1537
  interfaces := #[]
  cf := some (fileOf pool6 1 #[] #[] 1537 3 #[] #[])
  fields := #[]
  methods := #[]
  instanceTypes := #[]
  staticTypes := #[]
  resolved := Array.replicate 37 none
  statics := none }

def pool7 : Array CpInfo := pool [(1, .methodref 2 3), (0, .class_ 4), (0, .nameAndType 5 6), (0, u "java/lang/Object"), (0, u "<init>"), (0, u "()V"), (2, .fieldref 10 11), (0, .class_ 12), (0, .nameAndType 13 14), (0, u "java/lang/String"), (0, u "value"), (0, u "[B"), (0, .fieldref 10 16), (0, .nameAndType 17 18), (0, u "coder"), (0, u "B"), (2, u "hash"), (0, u "I"), (2, u "hashIsZero"), (0, u "Z"), (0, .methodref 10 28), (0, .nameAndType 5 29), (0, u "([CIILjava/lang/Void;)V"), (8, .fieldref 10 39), (0, .nameAndType 40 26), (0, u "COMPACT_STRINGS"), (1, .class_ 44), (1, u "java/lang/StringUTF16"), (0, u "compress"), (1, .methodref 42 48), (0, .nameAndType 49 50), (0, u "coderFromArrayLen"), (0, u "([BI)B"), (126, .methodref 42 178), (0, .nameAndType 45 179), (0, u "([CII)[B"), (395, .class_ 576), (0, u "java/lang/CharSequence"), (22, u "CASE_INSENSITIVE_ORDER"), (0, u "Ljava/util/Comparator;"), (409, u "([C)V"), (90, u "serialPersistentFields"), (0, u "[Ljava/io/ObjectStreamField;"), (0, .class_ 1104), (0, u "java/lang/String$CaseInsensitiveComparator"), (1, .class_ 1107), (0, u "java/io/Serializable"), (0, .class_ 1109), (0, u "java/lang/Comparable"), (0, .class_ 1111), (0, u "java/lang/constant/Constable"), (0, .class_ 1113), (0, u "java/lang/constant/ConstantDesc"), (2, u "serialVersionUID"), (0, u "J"), (3, u "REPL"), (0, u "C"), (2, u "LATIN1"), (1, u "UTF16")] 323

def k7m0 : Method := { name := "<init>", desc := "()V", sig := { parameters := [], returnType := none }, accessFlags := 1, code := none }
def k7c1 : Code := { maxStack := 5, maxLocals := 2, code := jdk_42_method_3_code, exceptionTable := #[], attributes := #[] }
def k7m1 : Method := { name := "<init>", desc := "([C)V", sig := { parameters := [(.array .char)], returnType := none }, accessFlags := 1, code := some k7c1 }
def k7c2 : Code := { maxStack := 4, maxLocals := 6, code := jdk_42_method_149_code, exceptionTable := #[], attributes := #[] }
def k7m2 : Method := { name := "<init>", desc := "([CIILjava/lang/Void;)V", sig := { parameters := [(.array .char), .int, .int, (.object "java/lang/Void")], returnType := none }, accessFlags := 2, code := some k7c2 }
/-- java/lang/String -/
def k7 : Class := { plain "java/lang/String" (some 0) with
  accessFlags := 49
  interfaces := #[2, 3, 4, 5, 6]
  cf := some (fileOf pool7 10 #[.nestMembers #[1103]] #[{ accessFlags := 1, nameIndex := 5, descriptorIndex := 6, attributes := #[] }, { accessFlags := 1, nameIndex := 5, descriptorIndex := 1010, attributes := #[] }, { accessFlags := 2, nameIndex := 5, descriptorIndex := 29, attributes := #[] }] 49 2 #[1106, 1108, 575, 1110, 1112] #[{ accessFlags := 18, nameIndex := 13, descriptorIndex := 14, attributes := #[] }, { accessFlags := 18, nameIndex := 17, descriptorIndex := 18, attributes := #[] }, { accessFlags := 2, nameIndex := 21, descriptorIndex := 22, attributes := #[] }, { accessFlags := 2, nameIndex := 25, descriptorIndex := 26, attributes := #[] }, { accessFlags := 26, nameIndex := 1116, descriptorIndex := 1117, attributes := #[] }, { accessFlags := 24, nameIndex := 40, descriptorIndex := 26, attributes := #[] }, { accessFlags := 26, nameIndex := 1101, descriptorIndex := 1102, attributes := #[] }, { accessFlags := 26, nameIndex := 1121, descriptorIndex := 1122, attributes := #[] }, { accessFlags := 25, nameIndex := 599, descriptorIndex := 600, attributes := #[] }, { accessFlags := 24, nameIndex := 1125, descriptorIndex := 18, attributes := #[] }, { accessFlags := 24, nameIndex := 1127, descriptorIndex := 18, attributes := #[] }])
  fields := #[{ name := "value", type := (.array .byte), accessFlags := 18, slot := 0, constantValue := 0 }, { name := "coder", type := .byte, accessFlags := 18, slot := 1, constantValue := 0 }, { name := "hash", type := .int, accessFlags := 2, slot := 2, constantValue := 0 }, { name := "hashIsZero", type := .boolean, accessFlags := 2, slot := 3, constantValue := 0 }, { name := "serialVersionUID", type := .long, accessFlags := 26, slot := 0, constantValue := 0 }, { name := "COMPACT_STRINGS", type := .boolean, accessFlags := 24, slot := 1, constantValue := 0 }, { name := "serialPersistentFields", type := (.array (.object "java/io/ObjectStreamField")), accessFlags := 26, slot := 2, constantValue := 0 }, { name := "REPL", type := .char, accessFlags := 26, slot := 3, constantValue := 0 }, { name := "CASE_INSENSITIVE_ORDER", type := (.object "java/util/Comparator"), accessFlags := 25, slot := 4, constantValue := 0 }, { name := "LATIN1", type := .byte, accessFlags := 24, slot := 5, constantValue := 0 }, { name := "UTF16", type := .byte, accessFlags := 24, slot := 6, constantValue := 0 }]
  methods := #[k7m0, k7m1, k7m2]
  instanceTypes := #[(.array .byte), .byte, .int, .boolean]
  staticTypes := #[.long, .boolean, (.array (.object "java/io/ObjectStreamField")), .char, (.object "java/util/Comparator"), .byte, .byte]
  resolved := Array.replicate 1451 none
  statics := some 0 }

def pool8 : Array CpInfo := pool [(6, .class_ 8), (1, u "java/lang/Object"), (0, u "<init>"), (0, u "()V"), (1, .class_ 14), (1, u "java/lang/StringUTF16"), (31, u "$assertionsDisabled"), (0, u "Z"), (13, u "HI_BYTE_SHIFT"), (0, u "I"), (2, u "LO_BYTE_SHIFT"), (49, .methodref 12 116), (0, .nameAndType 117 118), (0, u "compress"), (0, u "([CI[BII)I"), (3, u "([CII)[B"), (138, u "coderFromArrayLen"), (0, u "([BI)B"), (106, .class_ 371), (1, u "java/lang/StringUTF16$LinesSpliterator"), (58, u "MAX_LENGTH"), (196, .class_ 628), (0, u "java/lang/StringUTF16$CodePointsSpliterator"), (0, .class_ 630), (0, u "java/lang/StringUTF16$CharsSpliterator")] 4

def k8m0 : Method := { name := "<init>", desc := "()V", sig := { parameters := [], returnType := none }, accessFlags := 0, code := none }
def k8c1 : Code := { maxStack := 2, maxLocals := 2, code := jdk_52_method_15_code, exceptionTable := #[], attributes := #[] }
def k8m1 : Method := { name := "coderFromArrayLen", desc := "([BI)B", sig := { parameters := [(.array .byte), .int], returnType := some .byte }, accessFlags := 8, code := some k8c1 }
def k8c2 : Code := { maxStack := 5, maxLocals := 6, code := jdk_52_method_16_code, exceptionTable := #[], attributes := #[] }
def k8m2 : Method := { name := "compress", desc := "([CII)[B", sig := { parameters := [(.array .char), .int, .int], returnType := some (.array .byte) }, accessFlags := 9, code := some k8c2 }
def k8c3 : Code := { maxStack := 3, maxLocals := 7, code := jdk_52_method_21_code, exceptionTable := #[], attributes := #[] }
def k8m3 : Method := { name := "compress", desc := "([CI[BII)I", sig := { parameters := [(.array .char), .int, (.array .byte), .int, .int], returnType := some .int }, accessFlags := 9, code := some k8c3 }
/-- java/lang/StringUTF16 -/
def k8 : Class := { plain "java/lang/StringUTF16" (some 0) with
  accessFlags := 48
  interfaces := #[]
  cf := some (fileOf pool8 12 #[.nestMembers #[627, 629, 369]] #[{ accessFlags := 0, nameIndex := 9, descriptorIndex := 10, attributes := #[] }, { accessFlags := 8, nameIndex := 261, descriptorIndex := 262, attributes := #[] }, { accessFlags := 9, nameIndex := 117, descriptorIndex := 122, attributes := #[] }, { accessFlags := 9, nameIndex := 117, descriptorIndex := 118, attributes := #[] }] 48 6 #[] #[{ accessFlags := 26, nameIndex := 61, descriptorIndex := 62, attributes := #[] }, { accessFlags := 26, nameIndex := 65, descriptorIndex := 62, attributes := #[] }, { accessFlags := 24, nameIndex := 430, descriptorIndex := 62, attributes := #[] }, { accessFlags := 4120, nameIndex := 46, descriptorIndex := 47, attributes := #[] }])
  fields := #[{ name := "HI_BYTE_SHIFT", type := .int, accessFlags := 26, slot := 0, constantValue := 0 }, { name := "LO_BYTE_SHIFT", type := .int, accessFlags := 26, slot := 1, constantValue := 0 }, { name := "MAX_LENGTH", type := .int, accessFlags := 24, slot := 2, constantValue := 0 }, { name := "$assertionsDisabled", type := .boolean, accessFlags := 4120, slot := 3, constantValue := 0 }]
  methods := #[k8m0, k8m1, k8m2, k8m3]
  instanceTypes := #[]
  staticTypes := #[.int, .int, .int, .boolean]
  resolved := Array.replicate 635 none
  statics := none }

def pool9 : Array CpInfo := pool [(1, .methodref 2 3), (0, .class_ 4), (0, .nameAndType 5 6), (0, u "java/lang/Object"), (0, u "<init>"), (0, u "()V"), (0, .class_ 8), (0, u "java/lang/Record")] 13

def k9c0 : Code := { maxStack := 1, maxLocals := 1, code := jdk_30_method_1_code, exceptionTable := #[], attributes := #[] }
def k9m0 : Method := { name := "<init>", desc := "()V", sig := { parameters := [], returnType := none }, accessFlags := 4, code := some k9c0 }
/-- java/lang/Record -/
def k9 : Class := { plain "java/lang/Record" (some 0) with
  accessFlags := 1057
  interfaces := #[]
  cf := some (fileOf pool9 7 #[] #[{ accessFlags := 4, nameIndex := 5, descriptorIndex := 6, attributes := #[] }] 1057 2 #[] #[])
  fields := #[]
  methods := #[k9m0]
  instanceTypes := #[]
  staticTypes := #[]
  resolved := Array.replicate 22 none
  statics := none }

def pool10 : Array CpInfo := pool [(1, .class_ 2), (0, u "hornwright/model/Term"), (0, .class_ 4), (0, u "java/lang/Object")] 23

/-- hornwright/model/Term -/
def k10 : Class := { plain "hornwright/model/Term" (some 0) with
  accessFlags := 1537
  interfaces := #[]
  cf := some (fileOf pool10 1 #[] #[] 1537 3 #[] #[])
  fields := #[]
  methods := #[]
  instanceTypes := #[]
  staticTypes := #[]
  resolved := Array.replicate 28 none
  statics := none }

def pool11 : Array CpInfo := pool [(1, .methodref 2 3), (0, .class_ 4), (0, .nameAndType 5 6), (0, u "java/lang/Record"), (0, u "<init>"), (0, u "()V"), (0, .fieldref 8 9), (0, .class_ 10), (0, .nameAndType 11 12), (0, u "hornwright/model/Variable"), (0, u "name"), (0, u "Ljava/lang/String;"), (0, .fieldref 8 14), (0, .nameAndType 15 16), (0, u "anonymous"), (0, u "I"), (0, .methodref 8 18), (0, .nameAndType 5 19), (0, u "(Ljava/lang/String;I)V"), (0, .class_ 21), (0, u "java/util/ArrayList"), (0, .methodref 20 3), (0, .string 24), (0, u "_"), (0, .interfaceMethodref 26 27), (0, .class_ 28), (0, .nameAndType 29 30), (0, u "java/util/List"), (0, u "add"), (0, u "(Ljava/lang/Object;)Z"), (11, .class_ 43), (0, u "hornwright/model/Term"), (3, u "named"), (0, u "(Ljava/lang/String;)Lhornwright/model/Variable;"), (0, u "onlyAt"), (0, u "(IILhornwright/model/Variable;)Ljava/util/List;"), (3, u "isAnonymous"), (0, u "()Z")] 28

def k11c0 : Code := { maxStack := 2, maxLocals := 3, code := prog_53_method_1_code, exceptionTable := #[], attributes := #[] }
def k11m0 : Method := { name := "<init>", desc := "(Ljava/lang/String;I)V", sig := { parameters := [(.object "java/lang/String"), .int], returnType := none }, accessFlags := 1, code := some k11c0 }
def k11c1 : Code := { maxStack := 4, maxLocals := 1, code := prog_53_method_2_code, exceptionTable := #[], attributes := #[] }
def k11m1 : Method := { name := "named", desc := "(Ljava/lang/String;)Lhornwright/model/Variable;", sig := { parameters := [(.object "java/lang/String")], returnType := some (.object "hornwright/model/Variable") }, accessFlags := 9, code := some k11c1 }
def k11c2 : Code := { maxStack := 5, maxLocals := 6, code := prog_53_method_3_code, exceptionTable := #[], attributes := #[] }
def k11m2 : Method := { name := "onlyAt", desc := "(IILhornwright/model/Variable;)Ljava/util/List;", sig := { parameters := [.int, .int, (.object "hornwright/model/Variable")], returnType := some (.object "java/util/List") }, accessFlags := 8, code := some k11c2 }
def k11c3 : Code := { maxStack := 1, maxLocals := 1, code := prog_53_method_4_code, exceptionTable := #[], attributes := #[] }
def k11m3 : Method := { name := "isAnonymous", desc := "()Z", sig := { parameters := [], returnType := some .boolean }, accessFlags := 1, code := some k11c3 }
/-- hornwright/model/Variable -/
def k11 : Class := { plain "hornwright/model/Variable" (some 9) with
  accessFlags := 49
  interfaces := #[10]
  cf := some (fileOf pool11 8 #[] #[{ accessFlags := 1, nameIndex := 5, descriptorIndex := 19, attributes := #[] }, { accessFlags := 9, nameIndex := 47, descriptorIndex := 48, attributes := #[] }, { accessFlags := 8, nameIndex := 49, descriptorIndex := 50, attributes := #[] }, { accessFlags := 1, nameIndex := 54, descriptorIndex := 55, attributes := #[] }] 49 2 #[42] #[{ accessFlags := 18, nameIndex := 11, descriptorIndex := 12, attributes := #[] }, { accessFlags := 18, nameIndex := 15, descriptorIndex := 16, attributes := #[] }])
  fields := #[{ name := "name", type := (.object "java/lang/String"), accessFlags := 18, slot := 0, constantValue := 0 }, { name := "anonymous", type := .int, accessFlags := 18, slot := 1, constantValue := 0 }]
  methods := #[k11m0, k11m1, k11m2, k11m3]
  instanceTypes := #[(.object "java/lang/String"), .int]
  staticTypes := #[]
  resolved := Array.replicate 84 none
  statics := none }

def pool12 : Array CpInfo := pool [(8, .class_ 10), (1, u "java/lang/Iterable"), (24, .class_ 36), (0, u "java/lang/Object")] 25

/-- java/lang/Iterable -/
def k12 : Class := { plain "java/lang/Iterable" (some 0) with
  accessFlags := 1537
  interfaces := #[]
  cf := some (fileOf pool12 8 #[] #[] 1537 35 #[] #[])
  fields := #[]
  methods := #[]
  instanceTypes := #[]
  staticTypes := #[]
  resolved := Array.replicate 62 none
  statics := none }

def pool13 : Array CpInfo := pool [(10, .class_ 12), (1, u "java/util/Collection"), (47, .class_ 61), (0, u "java/lang/Object"), (0, .class_ 63), (0, u "java/lang/Iterable")] 51

/-- java/util/Collection -/
def k13 : Class := { plain "java/util/Collection" (some 0) with
  accessFlags := 1537
  interfaces := #[12]
  cf := some (fileOf pool13 10 #[] #[] 1537 60 #[62] #[])
  fields := #[]
  methods := #[]
  instanceTypes := #[]
  staticTypes := #[]
  resolved := Array.replicate 115 none
  statics := none }

def pool14 : Array CpInfo := pool [(1, .methodref 2 3), (0, .class_ 4), (0, .nameAndType 5 6), (0, u "java/lang/Object"), (0, u "<init>"), (0, u "()V"), (1, .class_ 10), (1, u "java/util/AbstractCollection"), (66, .class_ 78), (0, u "java/util/Collection")] 81

def k14c0 : Code := { maxStack := 1, maxLocals := 1, code := jdk_22_method_1_code, exceptionTable := #[], attributes := #[] }
def k14m0 : Method := { name := "<init>", desc := "()V", sig := { parameters := [], returnType := none }, accessFlags := 4, code := some k14c0 }
/-- java/util/AbstractCollection -/
def k14 : Class := { plain "java/util/AbstractCollection" (some 0) with
  accessFlags := 1057
  interfaces := #[13]
  cf := some (fileOf pool14 8 #[] #[{ accessFlags := 4, nameIndex := 5, descriptorIndex := 6, attributes := #[] }] 1057 2 #[77] #[])
  fields := #[]
  methods := #[k14m0]
  instanceTypes := #[]
  staticTypes := #[]
  resolved := Array.replicate 160 none
  statics := none }

def pool15 : Array CpInfo := pool [(8, .class_ 10), (1, u "java/util/SequencedCollection"), (15, .class_ 27), (0, u "java/lang/Object"), (0, .class_ 29), (0, u "java/util/Collection")] 27

/-- java/util/SequencedCollection -/
def k15 : Class := { plain "java/util/SequencedCollection" (some 0) with
  accessFlags := 1537
  interfaces := #[13]
  cf := some (fileOf pool15 8 #[] #[] 1537 26 #[28] #[])
  fields := #[]
  methods := #[]
  instanceTypes := #[]
  staticTypes := #[]
  resolved := Array.replicate 57 none
  statics := none }

def pool16 : Array CpInfo := pool [(8, .class_ 10), (1, u "java/util/List"), (49, u "add"), (3, u "(Ljava/lang/Object;)Z"), (10, u "get"), (0, u "(I)Ljava/lang/Object;"), (26, .class_ 104), (0, u "java/lang/Object"), (15, .class_ 121), (0, u "java/util/SequencedCollection")] 129

def k16m0 : Method := { name := "add", desc := "(Ljava/lang/Object;)Z", sig := { parameters := [(.object "java/lang/Object")], returnType := some .boolean }, accessFlags := 1025, code := none }
def k16m1 : Method := { name := "get", desc := "(I)Ljava/lang/Object;", sig := { parameters := [.int], returnType := some (.object "java/lang/Object") }, accessFlags := 1025, code := none }
/-- java/util/List -/
def k16 : Class := { plain "java/util/List" (some 0) with
  accessFlags := 1537
  interfaces := #[15]
  cf := some (fileOf pool16 8 #[] #[{ accessFlags := 1025, nameIndex := 60, descriptorIndex := 64, attributes := #[] }, { accessFlags := 1025, nameIndex := 75, descriptorIndex := 76, attributes := #[] }] 1537 103 #[120] #[])
  fields := #[]
  methods := #[k16m0, k16m1]
  instanceTypes := #[]
  staticTypes := #[]
  resolved := Array.replicate 251 none
  statics := none }

def pool17 : Array CpInfo := pool [(1, .methodref 2 3), (0, .class_ 4), (0, .nameAndType 5 6), (0, u "java/util/AbstractCollection"), (0, u "<init>"), (0, u "()V"), (0, .fieldref 8 9), (0, .class_ 10), (0, .nameAndType 11 12), (0, u "java/util/AbstractList"), (0, u "modCount"), (0, u "I"), (64, .class_ 78), (0, u "java/util/AbstractList$Itr"), (3, .class_ 83), (0, u "java/util/AbstractList$ListItr"), (9, .class_ 94), (0, u "java/util/AbstractList$RandomAccessSubList"), (3, .class_ 99), (0, u "java/util/AbstractList$SubList"), (33, .class_ 134), (0, u "java/util/List"), (73, .class_ 209), (0, u "java/util/AbstractList$SubList$1"), (0, .class_ 211), (0, u "java/util/AbstractList$RandomAccessSpliterator")] 6

def k17c0 : Code := { maxStack := 2, maxLocals := 1, code := jdk_39_method_1_code, exceptionTable := #[], attributes := #[] }
def k17m0 : Method := { name := "<init>", desc := "()V", sig := { parameters := [], returnType := none }, accessFlags := 4, code := some k17c0 }
/-- java/util/AbstractList -/
def k17 : Class := { plain "java/util/AbstractList" (some 14) with
  accessFlags := 1057
  interfaces := #[16]
  cf := some (fileOf pool17 8 #[.nestMembers #[93, 98, 208, 210, 82, 77]] #[{ accessFlags := 4, nameIndex := 5, descriptorIndex := 6, attributes := #[] }] 1057 2 #[133] #[{ accessFlags := 132, nameIndex := 11, descriptorIndex := 12, attributes := #[] }])
  fields := #[{ name := "modCount", type := .int, accessFlags := 132, slot := 0, constantValue := 0 }]
  methods := #[k17m0]
  instanceTypes := #[.int]
  staticTypes := #[]
  resolved := Array.replicate 218 none
  statics := none }

def pool18 : Array CpInfo := pool [(1, .class_ 2), (0, u "java/util/RandomAccess"), (0, .class_ 4), (0, u "java/lang/Object")] 2

/-- java/util/RandomAccess -/
def k18 : Class := { plain "java/util/RandomAccess" (some 0) with
  accessFlags := 1537
  interfaces := #[]
  cf := some (fileOf pool18 1 #[] #[] 1537 3 #[] #[])
  fields := #[]
  methods := #[]
  instanceTypes := #[]
  staticTypes := #[]
  resolved := Array.replicate 7 none
  statics := none }

def pool19 : Array CpInfo := pool [(1, .class_ 2), (0, u "java/lang/Cloneable"), (0, .class_ 4), (0, u "java/lang/Object")] 2

/-- java/lang/Cloneable -/
def k19 : Class := { plain "java/lang/Cloneable" (some 0) with
  accessFlags := 1537
  interfaces := #[]
  cf := some (fileOf pool19 1 #[] #[] 1537 3 #[] #[])
  fields := #[]
  methods := #[]
  instanceTypes := #[]
  staticTypes := #[]
  resolved := Array.replicate 7 none
  statics := none }

def pool20 : Array CpInfo := pool [(1, .methodref 2 3), (0, .class_ 4), (0, .nameAndType 5 6), (0, u "java/util/AbstractList"), (0, u "<init>"), (0, u "()V"), (0, .class_ 8), (0, u "java/lang/Object"), (0, .fieldref 10 11), (0, .class_ 12), (0, .nameAndType 13 14), (0, u "java/util/ArrayList"), (0, u "elementData"), (0, u "[Ljava/lang/Object;"), (2, u "EMPTY_ELEMENTDATA"), (21, .fieldref 10 40), (0, .nameAndType 41 14), (0, u "DEFAULTCAPACITY_EMPTY_ELEMENTDATA"), (5, u "()[Ljava/lang/Object;"), (0, .fieldref 10 49), (0, .nameAndType 50 51), (0, u "size"), (0, u "I"), (11, .fieldref 10 64), (0, .nameAndType 65 51), (0, u "modCount"), (3, .methodref 10 70), (0, .nameAndType 71 72), (0, u "grow"), (0, u "(I)[Ljava/lang/Object;"), (6, .methodref 80 81), (0, .class_ 82), (0, .nameAndType 83 84), (0, u "java/lang/Math"), (0, u "max"), (0, u "(II)I"), (11, u "(Ljava/lang/Object;)Z"), (21, .methodref 119 120), (0, .class_ 121), (0, .nameAndType 122 84), (0, u "java/util/Objects"), (0, u "checkIndex"), (0, .methodref 10 124), (0, .nameAndType 13 125), (0, u "(I)Ljava/lang/Object;"), (3, .methodref 10 130), (0, .nameAndType 71 47), (0, .methodref 10 132), (0, .nameAndType 133 134), (0, u "add"), (0, u "(Ljava/lang/Object;[Ljava/lang/Object;I)V"), (13, .class_ 149), (0, u "java/util/List"), (112, .class_ 263), (0, u "java/util/ArrayList$ListItr"), (3, .class_ 268), (0, u "java/util/ArrayList$Itr"), (7, .class_ 277), (0, u "java/util/ArrayList$SubList"), (12, .class_ 291), (0, u "java/util/ArrayList$ArrayListSpliterator"), (37, .class_ 330), (0, u "java/util/RandomAccess"), (0, .class_ 332), (0, u "java/lang/Cloneable"), (0, .class_ 334), (0, u "java/io/Serializable"), (0, u "serialVersionUID"), (0, u "J"), (3, u "DEFAULT_CAPACITY"), (40, u "get"), (118, .class_ 501), (0, u "java/util/ArrayList$SubList$2"), (0, .class_ 503), (0, u "java/util/ArrayList$SubList$1")] 5

def k20c0 : Code := { maxStack := 2, maxLocals := 1, code := jdk_38_method_2_code, exceptionTable := #[], attributes := #[] }
def k20m0 : Method := { name := "<init>", desc := "()V", sig := { parameters := [], returnType := none }, accessFlags := 1, code := some k20c0 }
def k20c1 : Code := { maxStack := 4, maxLocals := 4, code := jdk_38_method_6_code, exceptionTable := #[], attributes := #[] }
def k20m1 : Method := { name := "grow", desc := "(I)[Ljava/lang/Object;", sig := { parameters := [.int], returnType := some (.array (.object "java/lang/Object")) }, accessFlags := 2, code := some k20c1 }
def k20c2 : Code := { maxStack := 3, maxLocals := 1, code := jdk_38_method_7_code, exceptionTable := #[], attributes := #[] }
def k20m2 : Method := { name := "grow", desc := "()[Ljava/lang/Object;", sig := { parameters := [], returnType := some (.array (.object "java/lang/Object")) }, accessFlags := 2, code := some k20c2 }
def k20c3 : Code := { maxStack := 2, maxLocals := 2, code := jdk_38_method_18_code, exceptionTable := #[], attributes := #[] }
def k20m3 : Method := { name := "elementData", desc := "(I)Ljava/lang/Object;", sig := { parameters := [.int], returnType := some (.object "java/lang/Object") }, accessFlags := 0, code := some k20c3 }
def k20c4 : Code := { maxStack := 2, maxLocals := 2, code := jdk_38_method_20_code, exceptionTable := #[], attributes := #[] }
def k20m4 : Method := { name := "get", desc := "(I)Ljava/lang/Object;", sig := { parameters := [.int], returnType := some (.object "java/lang/Object") }, accessFlags := 1, code := some k20c4 }
def k20c5 : Code := { maxStack := 3, maxLocals := 4, code := jdk_38_method_24_code, exceptionTable := #[], attributes := #[] }
def k20m5 : Method := { name := "add", desc := "(Ljava/lang/Object;[Ljava/lang/Object;I)V", sig := { parameters := [(.object "java/lang/Object"), (.array (.object "java/lang/Object")), .int], returnType := none }, accessFlags := 2, code := some k20c5 }
def k20c6 : Code := { maxStack := 4, maxLocals := 2, code := jdk_38_method_25_code, exceptionTable := #[], attributes := #[] }
def k20m6 : Method := { name := "add", desc := "(Ljava/lang/Object;)Z", sig := { parameters := [(.object "java/lang/Object")], returnType := some .boolean }, accessFlags := 1, code := some k20c6 }
/-- java/util/ArrayList -/
def k20 : Class := { plain "java/util/ArrayList" (some 17) with
  accessFlags := 33
  interfaces := #[16, 18, 19, 2]
  cf := some (fileOf pool20 10 #[.nestMembers #[290, 276, 500, 502, 262, 267]] #[{ accessFlags := 1, nameIndex := 5, descriptorIndex := 6, attributes := #[] }, { accessFlags := 2, nameIndex := 71, descriptorIndex := 72, attributes := #[] }, { accessFlags := 2, nameIndex := 71, descriptorIndex := 47, attributes := #[] }, { accessFlags := 0, nameIndex := 13, descriptorIndex := 125, attributes := #[] }, { accessFlags := 1, nameIndex := 381, descriptorIndex := 125, attributes := #[] }, { accessFlags := 2, nameIndex := 133, descriptorIndex := 134, attributes := #[] }, { accessFlags := 1, nameIndex := 133, descriptorIndex := 96, attributes := #[] }] 33 2 #[148, 329, 331, 333] #[{ accessFlags := 26, nameIndex := 335, descriptorIndex := 336, attributes := #[] }, { accessFlags := 26, nameIndex := 340, descriptorIndex := 51, attributes := #[] }, { accessFlags := 26, nameIndex := 17, descriptorIndex := 14, attributes := #[] }, { accessFlags := 26, nameIndex := 41, descriptorIndex := 14, attributes := #[] }, { accessFlags := 128, nameIndex := 13, descriptorIndex := 14, attributes := #[] }, { accessFlags := 2, nameIndex := 50, descriptorIndex := 51, attributes := #[] }])
  fields := #[{ name := "serialVersionUID", type := .long, accessFlags := 26, slot := 0, constantValue := 0 }, { name := "DEFAULT_CAPACITY", type := .int, accessFlags := 26, slot := 1, constantValue := 0 }, { name := "EMPTY_ELEMENTDATA", type := (.array (.object "java/lang/Object")), accessFlags := 26, slot := 2, constantValue := 0 }, { name := "DEFAULTCAPACITY_EMPTY_ELEMENTDATA", type := (.array (.object "java/lang/Object")), accessFlags := 26, slot := 3, constantValue := 0 }, { name := "elementData", type := (.array (.object "java/lang/Object")), accessFlags := 128, slot := 1, constantValue := 0 }, { name := "size", type := .int, accessFlags := 2, slot := 2, constantValue := 0 }]
  methods := #[k20m0, k20m1, k20m2, k20m3, k20m4, k20m5, k20m6]
  instanceTypes := #[.int, (.array (.object "java/lang/Object")), .int]
  staticTypes := #[.long, .int, (.array (.object "java/lang/Object")), (.array (.object "java/lang/Object"))]
  resolved := Array.replicate 509 none
  statics := some 1 }

def pool21 : Array CpInfo := pool [(1, .class_ 2), (0, u "java/lang/Math"), (1, .class_ 6), (1, u "java/lang/Object"), (0, u "<init>"), (0, u "()V"), (89, .class_ 100), (1, u "java/lang/Math$RandomNumberGeneratorHolder"), (71, u "negativeZeroFloatBits"), (0, u "J"), (2, u "negativeZeroDoubleBits"), (21, u "max"), (46, u "$assertionsDisabled"), (0, u "Z"), (88, u "(II)I"), (2, u "twoToTheDoubleScaleDown"), (0, u "D"), (4, u "twoToTheDoubleScaleUp"), (9, u "E"), (3, u "PI"), (2, u "TAU"), (2, u "DEGREES_TO_RADIANS"), (0, u "RADIANS_TO_DEGREES")] 94

def k21m0 : Method := { name := "<init>", desc := "()V", sig := { parameters := [], returnType := none }, accessFlags := 2, code := none }
def k21c1 : Code := { maxStack := 2, maxLocals := 2, code := jdk_29_method_65_code, exceptionTable := #[], attributes := #[] }
def k21m1 : Method := { name := "max", desc := "(II)I", sig := { parameters := [.int, .int], returnType := some .int }, accessFlags := 9, code := some k21c1 }
/-- java/lang/Math -/
def k21 : Class := { plain "java/lang/Math" (some 0) with
  accessFlags := 49
  interfaces := #[]
  cf := some (fileOf pool21 1 #[.nestMembers #[98]] #[{ accessFlags := 2, nameIndex := 7, descriptorIndex := 8, attributes := #[] }, { accessFlags := 9, nameIndex := 198, descriptorIndex := 335, attributes := #[] }] 49 4 #[] #[{ accessFlags := 25, nameIndex := 354, descriptorIndex := 339, attributes := #[] }, { accessFlags := 25, nameIndex := 358, descriptorIndex := 339, attributes := #[] }, { accessFlags := 25, nameIndex := 361, descriptorIndex := 339, attributes := #[] }, { accessFlags := 26, nameIndex := 364, descriptorIndex := 339, attributes := #[] }, { accessFlags := 26, nameIndex := 365, descriptorIndex := 339, attributes := #[] }, { accessFlags := 26, nameIndex := 172, descriptorIndex := 173, attributes := #[] }, { accessFlags := 26, nameIndex := 176, descriptorIndex := 173, attributes := #[] }, { accessFlags := 8, nameIndex := 344, descriptorIndex := 339, attributes := #[] }, { accessFlags := 8, nameIndex := 338, descriptorIndex := 339, attributes := #[] }, { accessFlags := 4120, nameIndex := 245, descriptorIndex := 246, attributes := #[] }])
  fields := #[{ name := "E", type := .double, accessFlags := 25, slot := 0, constantValue := 0 }, { name := "PI", type := .double, accessFlags := 25, slot := 1, constantValue := 0 }, { name := "TAU", type := .double, accessFlags := 25, slot := 2, constantValue := 0 }, { name := "DEGREES_TO_RADIANS", type := .double, accessFlags := 26, slot := 3, constantValue := 0 }, { name := "RADIANS_TO_DEGREES", type := .double, accessFlags := 26, slot := 4, constantValue := 0 }, { name := "negativeZeroFloatBits", type := .long, accessFlags := 26, slot := 5, constantValue := 0 }, { name := "negativeZeroDoubleBits", type := .long, accessFlags := 26, slot := 6, constantValue := 0 }, { name := "twoToTheDoubleScaleUp", type := .double, accessFlags := 8, slot := 7, constantValue := 0 }, { name := "twoToTheDoubleScaleDown", type := .double, accessFlags := 8, slot := 8, constantValue := 0 }, { name := "$assertionsDisabled", type := .boolean, accessFlags := 4120, slot := 9, constantValue := 0 }]
  methods := #[k21m0, k21m1]
  instanceTypes := #[]
  staticTypes := #[.double, .double, .double, .double, .double, .long, .long, .double, .double, .boolean]
  resolved := Array.replicate 460 none
  statics := none }

def pool22 : Array CpInfo := pool [(2, .class_ 4), (1, u "java/lang/Object"), (0, u "<init>"), (0, u "()V"), (35, .class_ 44), (1, u "java/util/Objects"), (60, .methodref 106 107), (0, .class_ 108), (0, .nameAndType 109 110), (0, u "jdk/internal/util/Preconditions"), (0, u "checkIndex"), (0, u "(IILjava/util/function/BiFunction;)I"), (60, u "(II)I")] 12

def k22m0 : Method := { name := "<init>", desc := "()V", sig := { parameters := [], returnType := none }, accessFlags := 2, code := none }
def k22c1 : Code := { maxStack := 3, maxLocals := 2, code := jdk_31_method_17_code, exceptionTable := #[], attributes := #[] }
def k22m1 : Method := { name := "checkIndex", desc := "(II)I", sig := { parameters := [.int, .int], returnType := some .int }, accessFlags := 9, code := some k22c1 }
/-- java/util/Objects -/
def k22 : Class := { plain "java/util/Objects" (some 0) with
  accessFlags := 49
  interfaces := #[]
  cf := some (fileOf pool22 42 #[] #[{ accessFlags := 2, nameIndex := 5, descriptorIndex := 6, attributes := #[] }, { accessFlags := 9, nameIndex := 109, descriptorIndex := 171, attributes := #[] }] 49 2 #[] #[])
  fields := #[]
  methods := #[k22m0, k22m1]
  instanceTypes := #[]
  staticTypes := #[]
  resolved := Array.replicate 184 none
  statics := none }

def pool23 : Array CpInfo := pool [(2, .class_ 4), (1, u "java/lang/Object"), (0, u "<init>"), (0, u "()V"), (17, .class_ 26), (1, u "jdk/internal/util/Preconditions"), (6, u "checkIndex"), (21, .class_ 56), (0, u "jdk/internal/util/Preconditions$4"), (57, .class_ 115), (0, u "jdk/internal/util/Preconditions$1"), (7, u "SIOOBE_FORMATTER"), (0, u "Ljava/util/function/BiFunction;"), (0, .class_ 126), (0, u "jdk/internal/util/Preconditions$2"), (3, u "AIOOBE_FORMATTER"), (0, .class_ 132), (0, u "jdk/internal/util/Preconditions$3"), (3, u "IOOBE_FORMATTER"), (41, u "(IILjava/util/function/BiFunction;)I")] 15

def k23m0 : Method := { name := "<init>", desc := "()V", sig := { parameters := [], returnType := none }, accessFlags := 1, code := none }
def k23c1 : Code := { maxStack := 3, maxLocals := 3, code := jdk_41_method_11_code, exceptionTable := #[], attributes := #[] }
def k23m1 : Method := { name := "checkIndex", desc := "(IILjava/util/function/BiFunction;)I", sig := { parameters := [.int, .int, (.object "java/util/function/BiFunction")], returnType := some .int }, accessFlags := 9, code := some k23c1 }
/-- jdk/internal/util/Preconditions -/
def k23 : Class := { plain "jdk/internal/util/Preconditions" (some 0) with
  accessFlags := 33
  interfaces := #[]
  cf := some (fileOf pool23 24 #[.nestMembers #[55, 131, 125, 114]] #[{ accessFlags := 1, nameIndex := 5, descriptorIndex := 6, attributes := #[] }, { accessFlags := 9, nameIndex := 33, descriptorIndex := 178, attributes := #[] }] 33 2 #[] #[{ accessFlags := 25, nameIndex := 123, descriptorIndex := 124, attributes := #[] }, { accessFlags := 25, nameIndex := 130, descriptorIndex := 124, attributes := #[] }, { accessFlags := 25, nameIndex := 136, descriptorIndex := 124, attributes := #[] }])
  fields := #[{ name := "SIOOBE_FORMATTER", type := (.object "java/util/function/BiFunction"), accessFlags := 25, slot := 0, constantValue := 0 }, { name := "AIOOBE_FORMATTER", type := (.object "java/util/function/BiFunction"), accessFlags := 25, slot := 1, constantValue := 0 }, { name := "IOOBE_FORMATTER", type := (.object "java/util/function/BiFunction"), accessFlags := 25, slot := 2, constantValue := 0 }]
  methods := #[k23m0, k23m1]
  instanceTypes := #[]
  staticTypes := #[(.object "java/util/function/BiFunction"), (.object "java/util/function/BiFunction"), (.object "java/util/function/BiFunction")]
  resolved := Array.replicate 194 none
  statics := some 2 }

def pool24 : Array CpInfo := pool [(4, .class_ 6), (1, u "java/lang/Object"), (0, u "<init>"), (0, u "()V"), (5, .class_ 16), (1, u "java/lang/StringLatin1"), (104, u "$assertionsDisabled"), (0, u "Z"), (98, .class_ 223), (1, u "java/lang/StringLatin1$LinesSpliterator"), (166, .class_ 391), (0, u "java/lang/StringLatin1$CharsSpliterator")] 3

def k24m0 : Method := { name := "<init>", desc := "()V", sig := { parameters := [], returnType := none }, accessFlags := 0, code := none }
/-- java/lang/StringLatin1 -/
def k24 : Class := { plain "java/lang/StringLatin1" (some 0) with
  accessFlags := 48
  interfaces := #[]
  cf := some (fileOf pool24 14 #[.nestMembers #[390, 221]] #[{ accessFlags := 0, nameIndex := 7, descriptorIndex := 8, attributes := #[] }] 48 4 #[] #[{ accessFlags := 4120, nameIndex := 121, descriptorIndex := 122, attributes := #[] }])
  fields := #[{ name := "$assertionsDisabled", type := .boolean, accessFlags := 4120, slot := 0, constantValue := 0 }]
  methods := #[k24m0]
  instanceTypes := #[]
  staticTypes := #[.boolean]
  resolved := Array.replicate 395 none
  statics := none }

def pool25 : Array CpInfo := pool [(9, u "<init>"), (6, .class_ 18), (1, u "java/lang/Object"), (0, u "()V"), (1, .class_ 23), (1, u "jdk/internal/util/ArraysSupport"), (0, u "LOG2_ARRAY_LONG_INDEX_SCALE"), (0, u "I"), (2, u "U"), (0, u "Ljdk/internal/misc/Unsafe;"), (8, u "BIG_ENDIAN"), (0, u "Z"), (8, u "LOG2_BYTE_BIT_SIZE"), (4, u "LOG2_ARRAY_INT_INDEX_SCALE"), (54, u "JLA"), (0, u "Ljdk/internal/access/JavaLangAccess;"), (11, u "LOG2_ARRAY_BOOLEAN_INDEX_SCALE"), (9, u "LOG2_ARRAY_BYTE_INDEX_SCALE"), (5, u "LOG2_ARRAY_CHAR_INDEX_SCALE"), (5, u "LOG2_ARRAY_SHORT_INDEX_SCALE"), (18, u "LOG2_ARRAY_FLOAT_INDEX_SCALE"), (24, u "LOG2_ARRAY_DOUBLE_INDEX_SCALE"), (89, u "T_BOOLEAN"), (2, u "T_CHAR"), (1, u "T_FLOAT"), (1, u "T_DOUBLE"), (1, u "T_BYTE"), (1, u "T_SHORT"), (1, u "T_INT"), (1, u "T_LONG"), (1, u "SOFT_MAX_ARRAY_LENGTH")] 83

def k25m0 : Method := { name := "<init>", desc := "()V", sig := { parameters := [], returnType := none }, accessFlags := 2, code := none }
/-- jdk/internal/util/ArraysSupport -/
def k25 : Class := { plain "jdk/internal/util/ArraysSupport" (some 0) with
  accessFlags := 33
  interfaces := #[]
  cf := some (fileOf pool25 21 #[] #[{ accessFlags := 2, nameIndex := 9, descriptorIndex := 19, attributes := #[] }] 33 16 #[] #[{ accessFlags := 24, nameIndex := 28, descriptorIndex := 29, attributes := #[] }, { accessFlags := 26, nameIndex := 38, descriptorIndex := 39, attributes := #[] }, { accessFlags := 25, nameIndex := 121, descriptorIndex := 25, attributes := #[] }, { accessFlags := 25, nameIndex := 131, descriptorIndex := 25, attributes := #[] }, { accessFlags := 25, nameIndex := 137, descriptorIndex := 25, attributes := #[] }, { accessFlags := 25, nameIndex := 143, descriptorIndex := 25, attributes := #[] }, { accessFlags := 25, nameIndex := 53, descriptorIndex := 25, attributes := #[] }, { accessFlags := 25, nameIndex := 24, descriptorIndex := 25, attributes := #[] }, { accessFlags := 25, nameIndex := 162, descriptorIndex := 25, attributes := #[] }, { accessFlags := 25, nameIndex := 187, descriptorIndex := 25, attributes := #[] }, { accessFlags := 26, nameIndex := 48, descriptorIndex := 25, attributes := #[] }, { accessFlags := 25, nameIndex := 277, descriptorIndex := 25, attributes := #[] }, { accessFlags := 25, nameIndex := 280, descriptorIndex := 25, attributes := #[] }, { accessFlags := 25, nameIndex := 282, descriptorIndex := 25, attributes := #[] }, { accessFlags := 25, nameIndex := 284, descriptorIndex := 25, attributes := #[] }, { accessFlags := 25, nameIndex := 286, descriptorIndex := 25, attributes := #[] }, { accessFlags := 25, nameIndex := 288, descriptorIndex := 25, attributes := #[] }, { accessFlags := 25, nameIndex := 290, descriptorIndex := 25, attributes := #[] }, { accessFlags := 25, nameIndex := 292, descriptorIndex := 25, attributes := #[] }, { accessFlags := 26, nameIndex := 108, descriptorIndex := 109, attributes := #[] }, { accessFlags := 25, nameIndex := 294, descriptorIndex := 25, attributes := #[] }])
  fields := #[{ name := "U", type := (.object "jdk/internal/misc/Unsafe"), accessFlags := 24, slot := 0, constantValue := 0 }, { name := "BIG_ENDIAN", type := .boolean, accessFlags := 26, slot := 1, constantValue := 0 }, { name := "LOG2_ARRAY_BOOLEAN_INDEX_SCALE", type := .int, accessFlags := 25, slot := 2, constantValue := 0 }, { name := "LOG2_ARRAY_BYTE_INDEX_SCALE", type := .int, accessFlags := 25, slot := 3, constantValue := 0 }, { name := "LOG2_ARRAY_CHAR_INDEX_SCALE", type := .int, accessFlags := 25, slot := 4, constantValue := 0 }, { name := "LOG2_ARRAY_SHORT_INDEX_SCALE", type := .int, accessFlags := 25, slot := 5, constantValue := 0 }, { name := "LOG2_ARRAY_INT_INDEX_SCALE", type := .int, accessFlags := 25, slot := 6, constantValue := 0 }, { name := "LOG2_ARRAY_LONG_INDEX_SCALE", type := .int, accessFlags := 25, slot := 7, constantValue := 0 }, { name := "LOG2_ARRAY_FLOAT_INDEX_SCALE", type := .int, accessFlags := 25, slot := 8, constantValue := 0 }, { name := "LOG2_ARRAY_DOUBLE_INDEX_SCALE", type := .int, accessFlags := 25, slot := 9, constantValue := 0 }, { name := "LOG2_BYTE_BIT_SIZE", type := .int, accessFlags := 26, slot := 10, constantValue := 0 }, { name := "T_BOOLEAN", type := .int, accessFlags := 25, slot := 11, constantValue := 0 }, { name := "T_CHAR", type := .int, accessFlags := 25, slot := 12, constantValue := 0 }, { name := "T_FLOAT", type := .int, accessFlags := 25, slot := 13, constantValue := 0 }, { name := "T_DOUBLE", type := .int, accessFlags := 25, slot := 14, constantValue := 0 }, { name := "T_BYTE", type := .int, accessFlags := 25, slot := 15, constantValue := 0 }, { name := "T_SHORT", type := .int, accessFlags := 25, slot := 16, constantValue := 0 }, { name := "T_INT", type := .int, accessFlags := 25, slot := 17, constantValue := 0 }, { name := "T_LONG", type := .int, accessFlags := 25, slot := 18, constantValue := 0 }, { name := "JLA", type := (.object "jdk/internal/access/JavaLangAccess"), accessFlags := 26, slot := 19, constantValue := 0 }, { name := "SOFT_MAX_ARRAY_LENGTH", type := .int, accessFlags := 25, slot := 20, constantValue := 0 }]
  methods := #[k25m0]
  instanceTypes := #[]
  staticTypes := #[(.object "jdk/internal/misc/Unsafe"), .boolean, .int, .int, .int, .int, .int, .int, .int, .int, .int, .int, .int, .int, .int, .int, .int, .int, .int, (.object "jdk/internal/access/JavaLangAccess"), .int]
  resolved := Array.replicate 378 none
  statics := none }

/-- the primitive byte -/
def k26 : Class := { plain "byte" none with kind := .primitive 'B', accessFlags := 0x411 }
/-- [B -/
def k27 : Class := { plain "[B" (some 0) with kind := .array 26 .byte, interfaces := #[19, 2], accessFlags := 1041 }

/-- the primitive char -/
def k28 : Class := { plain "char" none with kind := .primitive 'C', accessFlags := 0x411 }
/-- [C -/
def k29 : Class := { plain "[C" (some 0) with kind := .array 28 .char, interfaces := #[19, 2], accessFlags := 1041 }

/-- the primitive int -/
def k30 : Class := { plain "int" none with kind := .primitive 'I', accessFlags := 0x411 }
/-- [I -/
def k31 : Class := { plain "[I" (some 0) with kind := .array 30 .int, interfaces := #[19, 2], accessFlags := 1041 }

/-- [Ljava/lang/Object; -/
def k32 : Class := { plain "[Ljava/lang/Object;" (some 0) with kind := .array 0 (.object "java/lang/Object"), interfaces := #[19, 2], accessFlags := 1041 }

def heap : Heap := #[{ cls := 7, slots := #[.long 0, .int 1, .null, .int 0, .null, .int 0, .int 0], vm := .statics 7 },
  { cls := 20, slots := #[.long 0, .int 0, .ref 3, .ref 4], vm := .statics 20 },
  { cls := 23, slots := #[.null, .null, .null], vm := .statics 23 },
  { cls := 32, slots := #[], vm := .none },
  { cls := 32, slots := #[], vm := .none }]
def classes : Array Class := #[k0, k1, k2, k3, k4, k5, k6, k7, k8, k9, k10, k11, k12, k13, k14, k15, k16, k17, k18, k19, k20, k21, k22, k23, k24, k25, k26, k27, k28, k29, k30, k31, k32]
def interned : List (Array UInt16 × Addr) := []
def slotsUsed : Nat := 14
def theMethod : MethodId := ⟨1, 1⟩
def args0 : Array Value := #[.int 1, .int 97, .int 98, .int 1]
def aboutOver (below : List Frame) : State where
  vm := { classes := classes, interned := interned.toArray }
  heap := heap
  slotsUsed := slotsUsed
  threads := #[{ frames := .invoking theMethod args0 :: below }]
def below0 : List Frame := [.native { method := ⟨0, 0⟩, args := #[] }]
def about1 : State := aboutOver below0
def p0 : Program := .bare "" "" ""
def e0 : Env := launch0.env 0 0 0
theorem w_frames : about1.frames = Frame.invoking theMethod args0 :: below0 := rfl
set_option maxRecDepth 65536 in
theorem w_args : argsFit about1.vm theMethod args0 = true := by decide +kernel
set_option maxRecDepth 65536 in
theorem w_heap : heapFits about1 = true := by decide +kernel
set_option maxRecDepth 65536 in
theorem w_runnable : about1.curStatus? = some .runnable := by decide +kernel
set_option maxRecDepth 65536 in
theorem w_alone : about1.alone = true := by decide +kernel
set_option maxRecDepth 65536 in
theorem w_named : about1.methodNamed? x = some theMethod := by decide +kernel
set_option maxRecDepth 65536 in
theorem w_hears : about1.hears theMethod below0 = true := by decide +kernel
set_option maxRecDepth 65536 in
theorem w_ripe : about1.ripe theMethod args0 below0 = true := by decide +kernel
theorem w_running : about1.status = .running := rfl
set_option maxRecDepth 65536 in
theorem w_room : about1.hasRoom e0.platform room_1 = true :=
  launch0.hasRoom_least _ room_1 (by decide +kernel) (by decide +kernel) (by decide +kernel) (by decide +kernel) (by decide +kernel) (by decide +kernel)
theorem allAtoms_all (ts : List Jvm.Cond) (a : Array Jvm.Value) (st : Jvm.State) : (allAtoms ts).before a st = ts.all (fun c => c.before a st) := by
  induction ts with
  | nil => rfl
  | cons c t ih =>
    show (Jvm.Cond.and c (allAtoms t)).before a st = _
    rw [Jvm.Cond.before_and, ih, List.all_cons]
def words1 : List Jvm.Cond := Jvm.Cond.code x code maxLocals ret :: tables_1
/-- a 'code' word, met by the world's own term for the bytes: nothing is compared byte by byte -/
theorem code_word {y : MethodName} {bytes : ByteArray} {mx : Nat} {rt : Option FieldType} {a : Array Value} {s : State} {m : MethodId} {meth : Method} {c : Code} (h1 : s.methodNamed? y = some m) (h2 : s.vm.method? m = some meth) (h3 : meth.code = some c) (h4 : c.code = bytes)
    (h5 : (c.maxLocals == mx && c.exceptionTable.isEmpty && decide (c.maxStack ≤ mostOperands) && decide (meth.sig.returnType = rt) && !meth.locks && decide (parseMethodDescriptor y.desc = some meth.sig)) = true) : (Jvm.Cond.code y bytes mx rt).before a s = true := by
  simp only [Bool.and_eq_true, beq_iff_eq, Bool.not_eq_true', decide_eq_true_eq] at h5
  obtain ⟨⟨⟨⟨⟨g1, g2⟩, g3⟩, g4⟩, g5⟩, g6⟩ := h5
  simp [Cond.before, Cond.holds, Cond.value, h1, h2, h3, h4, g1, g2, g3, g4, g5, g6]
def isCode : Jvm.Cond → Bool
  | .code _ _ _ _ => true
  | _ => false
theorem all_split {L : List Jvm.Cond} {P : Jvm.Cond → Bool} (h1 : L.all (fun c => isCode c || P c) = true) (h2 : ∀ c ∈ L.filter isCode, P c = true) : L.all P = true := by
  refine List.all_eq_true.mpr fun c hc => ?_
  have h := List.all_eq_true.mp h1 c hc
  rcases Bool.eq_false_or_eq_true (isCode c) with hi | hi
  · exact h2 c (List.mem_filter.mpr ⟨hc, hi⟩)
  · simpa [hi] using h
set_option maxRecDepth 65536 in
theorem w_c0 : (Jvm.Cond.code x code maxLocals ret).before args0 about1 = true := code_word (m := ⟨1, 1⟩) (meth := k1m1) (c := k1c1) (by decide +kernel) rfl rfl rfl (by decide +kernel)
set_option maxRecDepth 65536 in
theorem w_c1 : (Jvm.Cond.code ({ cls := "java/lang/String", name := "<init>", desc := "([C)V" } : Jvm.MethodName) jdk_42_method_3_code (2 : Nat) (Option.none : Option Jvm.ClassFile.FieldType)).before args0 about1 = true := code_word (m := ⟨7, 1⟩) (meth := k7m1) (c := k7c1) (by decide +kernel) rfl rfl rfl (by decide +kernel)
set_option maxRecDepth 65536 in
theorem w_c2 : (Jvm.Cond.code ({ cls := "java/lang/String", name := "<init>", desc := "([CIILjava/lang/Void;)V" } : Jvm.MethodName) jdk_42_method_149_code (6 : Nat) (Option.none : Option Jvm.ClassFile.FieldType)).before args0 about1 = true := code_word (m := ⟨7, 2⟩) (meth := k7m2) (c := k7c2) (by decide +kernel) rfl rfl rfl (by decide +kernel)
set_option maxRecDepth 65536 in
theorem w_c3 : (Jvm.Cond.code ({ cls := "java/lang/Object", name := "<init>", desc := "()V" } : Jvm.MethodName) object_method_1_code (1 : Nat) (Option.none : Option Jvm.ClassFile.FieldType)).before args0 about1 = true := code_word (m := ⟨0, 0⟩) (meth := k0m0) (c := k0c0) (by decide +kernel) rfl rfl rfl (by decide +kernel)
set_option maxRecDepth 65536 in
theorem w_c4 : (Jvm.Cond.code ({ cls := "java/lang/StringUTF16", name := "compress", desc := "([CII)[B" } : Jvm.MethodName) jdk_52_method_16_code (6 : Nat) (Option.some (Jvm.ClassFile.FieldType.array Jvm.ClassFile.FieldType.byte))).before args0 about1 = true := code_word (m := ⟨8, 2⟩) (meth := k8m2) (c := k8c2) (by decide +kernel) rfl rfl rfl (by decide +kernel)
set_option maxRecDepth 65536 in
theorem w_c5 : (Jvm.Cond.code ({ cls := "java/lang/StringUTF16", name := "compress", desc := "([CI[BII)I" } : Jvm.MethodName) jdk_52_method_21_code (7 : Nat) (Option.some Jvm.ClassFile.FieldType.int)).before args0 about1 = true := code_word (m := ⟨8, 3⟩) (meth := k8m3) (c := k8c3) (by decide +kernel) rfl rfl rfl (by decide +kernel)
set_option maxRecDepth 65536 in
theorem w_c6 : (Jvm.Cond.code ({ cls := "java/lang/StringUTF16", name := "coderFromArrayLen", desc := "([BI)B" } : Jvm.MethodName) jdk_52_method_15_code (2 : Nat) (Option.some Jvm.ClassFile.FieldType.byte)).before args0 about1 = true := code_word (m := ⟨8, 1⟩) (meth := k8m1) (c := k8c1) (by decide +kernel) rfl rfl rfl (by decide +kernel)
set_option maxRecDepth 65536 in
theorem w_c7 : (Jvm.Cond.code ({ cls := "hornwright/model/Variable", name := "<init>", desc := "(Ljava/lang/String;I)V" } : Jvm.MethodName) prog_53_method_1_code (3 : Nat) (Option.none : Option Jvm.ClassFile.FieldType)).before args0 about1 = true := code_word (m := ⟨11, 0⟩) (meth := k11m0) (c := k11c0) (by decide +kernel) rfl rfl rfl (by decide +kernel)
set_option maxRecDepth 65536 in
theorem w_c8 : (Jvm.Cond.code ({ cls := "java/lang/Record", name := "<init>", desc := "()V" } : Jvm.MethodName) jdk_30_method_1_code (1 : Nat) (Option.none : Option Jvm.ClassFile.FieldType)).before args0 about1 = true := code_word (m := ⟨9, 0⟩) (meth := k9m0) (c := k9c0) (by decide +kernel) rfl rfl rfl (by decide +kernel)
set_option maxRecDepth 65536 in
theorem w_c9 : (Jvm.Cond.code ({ cls := "hornwright/model/Variable", name := "isAnonymous", desc := "()Z" } : Jvm.MethodName) prog_53_method_4_code (1 : Nat) (Option.some Jvm.ClassFile.FieldType.boolean)).before args0 about1 = true := code_word (m := ⟨11, 3⟩) (meth := k11m3) (c := k11c3) (by decide +kernel) rfl rfl rfl (by decide +kernel)
set_option maxRecDepth 65536 in
theorem w_c10 : (Jvm.Cond.code ({ cls := "hornwright/model/Variable", name := "named", desc := "(Ljava/lang/String;)Lhornwright/model/Variable;" } : Jvm.MethodName) prog_53_method_2_code (1 : Nat) (Option.some (Jvm.ClassFile.FieldType.object "hornwright/model/Variable"))).before args0 about1 = true := code_word (m := ⟨11, 1⟩) (meth := k11m1) (c := k11c1) (by decide +kernel) rfl rfl rfl (by decide +kernel)
set_option maxRecDepth 65536 in
theorem w_c11 : (Jvm.Cond.code ({ cls := "hornwright/model/Variable", name := "onlyAt", desc := "(IILhornwright/model/Variable;)Ljava/util/List;" } : Jvm.MethodName) prog_53_method_3_code (6 : Nat) (Option.some (Jvm.ClassFile.FieldType.object "java/util/List"))).before args0 about1 = true := code_word (m := ⟨11, 2⟩) (meth := k11m2) (c := k11c2) (by decide +kernel) rfl rfl rfl (by decide +kernel)
set_option maxRecDepth 65536 in
theorem w_c12 : (Jvm.Cond.code ({ cls := "java/util/ArrayList", name := "<init>", desc := "()V" } : Jvm.MethodName) jdk_38_method_2_code (1 : Nat) (Option.none : Option Jvm.ClassFile.FieldType)).before args0 about1 = true := code_word (m := ⟨20, 0⟩) (meth := k20m0) (c := k20c0) (by decide +kernel) rfl rfl rfl (by decide +kernel)
set_option maxRecDepth 65536 in
theorem w_c13 : (Jvm.Cond.code ({ cls := "java/util/AbstractList", name := "<init>", desc := "()V" } : Jvm.MethodName) jdk_39_method_1_code (1 : Nat) (Option.none : Option Jvm.ClassFile.FieldType)).before args0 about1 = true := code_word (m := ⟨17, 0⟩) (meth := k17m0) (c := k17c0) (by decide +kernel) rfl rfl rfl (by decide +kernel)
set_option maxRecDepth 65536 in
theorem w_c14 : (Jvm.Cond.code ({ cls := "java/util/AbstractCollection", name := "<init>", desc := "()V" } : Jvm.MethodName) jdk_22_method_1_code (1 : Nat) (Option.none : Option Jvm.ClassFile.FieldType)).before args0 about1 = true := code_word (m := ⟨14, 0⟩) (meth := k14m0) (c := k14c0) (by decide +kernel) rfl rfl rfl (by decide +kernel)
set_option maxRecDepth 65536 in
theorem w_c15 : (Jvm.Cond.code ({ cls := "java/util/ArrayList", name := "add", desc := "(Ljava/lang/Object;)Z" } : Jvm.MethodName) jdk_38_method_25_code (2 : Nat) (Option.some Jvm.ClassFile.FieldType.boolean)).before args0 about1 = true := code_word (m := ⟨20, 6⟩) (meth := k20m6) (c := k20c6) (by decide +kernel) rfl rfl rfl (by decide +kernel)
set_option maxRecDepth 65536 in
theorem w_c16 : (Jvm.Cond.code ({ cls := "java/util/ArrayList", name := "add", desc := "(Ljava/lang/Object;[Ljava/lang/Object;I)V" } : Jvm.MethodName) jdk_38_method_24_code (4 : Nat) (Option.none : Option Jvm.ClassFile.FieldType)).before args0 about1 = true := code_word (m := ⟨20, 5⟩) (meth := k20m5) (c := k20c5) (by decide +kernel) rfl rfl rfl (by decide +kernel)
set_option maxRecDepth 65536 in
theorem w_c17 : (Jvm.Cond.code ({ cls := "java/util/ArrayList", name := "grow", desc := "()[Ljava/lang/Object;" } : Jvm.MethodName) jdk_38_method_7_code (1 : Nat) (Option.some (Jvm.ClassFile.FieldType.array (Jvm.ClassFile.FieldType.object "java/lang/Object")))).before args0 about1 = true := code_word (m := ⟨20, 2⟩) (meth := k20m2) (c := k20c2) (by decide +kernel) rfl rfl rfl (by decide +kernel)
set_option maxRecDepth 65536 in
theorem w_c18 : (Jvm.Cond.code ({ cls := "java/util/ArrayList", name := "grow", desc := "(I)[Ljava/lang/Object;" } : Jvm.MethodName) jdk_38_method_6_code (4 : Nat) (Option.some (Jvm.ClassFile.FieldType.array (Jvm.ClassFile.FieldType.object "java/lang/Object")))).before args0 about1 = true := code_word (m := ⟨20, 1⟩) (meth := k20m1) (c := k20c1) (by decide +kernel) rfl rfl rfl (by decide +kernel)
set_option maxRecDepth 65536 in
theorem w_c19 : (Jvm.Cond.code ({ cls := "java/lang/Math", name := "max", desc := "(II)I" } : Jvm.MethodName) jdk_29_method_65_code (2 : Nat) (Option.some Jvm.ClassFile.FieldType.int)).before args0 about1 = true := code_word (m := ⟨21, 1⟩) (meth := k21m1) (c := k21c1) (by decide +kernel) rfl rfl rfl (by decide +kernel)
set_option maxRecDepth 65536 in
theorem w_c20 : (Jvm.Cond.code ({ cls := "java/util/ArrayList", name := "get", desc := "(I)Ljava/lang/Object;" } : Jvm.MethodName) jdk_38_method_20_code (2 : Nat) (Option.some (Jvm.ClassFile.FieldType.object "java/lang/Object"))).before args0 about1 = true := code_word (m := ⟨20, 4⟩) (meth := k20m4) (c := k20c4) (by decide +kernel) rfl rfl rfl (by decide +kernel)
set_option maxRecDepth 65536 in
theorem w_c21 : (Jvm.Cond.code ({ cls := "java/util/Objects", name := "checkIndex", desc := "(II)I" } : Jvm.MethodName) jdk_31_method_17_code (2 : Nat) (Option.some Jvm.ClassFile.FieldType.int)).before args0 about1 = true := code_word (m := ⟨22, 1⟩) (meth := k22m1) (c := k22c1) (by decide +kernel) rfl rfl rfl (by decide +kernel)
set_option maxRecDepth 65536 in
theorem w_c22 : (Jvm.Cond.code ({ cls := "jdk/internal/util/Preconditions", name := "checkIndex", desc := "(IILjava/util/function/BiFunction;)I" } : Jvm.MethodName) jdk_41_method_11_code (3 : Nat) (Option.some Jvm.ClassFile.FieldType.int)).before args0 about1 = true := code_word (m := ⟨23, 1⟩) (meth := k23m1) (c := k23c1) (by decide +kernel) rfl rfl rfl (by decide +kernel)
set_option maxRecDepth 65536 in
theorem w_c23 : (Jvm.Cond.code ({ cls := "java/util/ArrayList", name := "elementData", desc := "(I)Ljava/lang/Object;" } : Jvm.MethodName) jdk_38_method_18_code (2 : Nat) (Option.some (Jvm.ClassFile.FieldType.object "java/lang/Object"))).before args0 about1 = true := code_word (m := ⟨20, 3⟩) (meth := k20m3) (c := k20c3) (by decide +kernel) rfl rfl rfl (by decide +kernel)
def codes1 : List Jvm.Cond := [Jvm.Cond.code x code maxLocals ret, Jvm.Cond.code ({ cls := "java/lang/String", name := "<init>", desc := "([C)V" } : Jvm.MethodName) jdk_42_method_3_code (2 : Nat) (Option.none : Option Jvm.ClassFile.FieldType), Jvm.Cond.code ({ cls := "java/lang/String", name := "<init>", desc := "([CIILjava/lang/Void;)V" } : Jvm.MethodName) jdk_42_method_149_code (6 : Nat) (Option.none : Option Jvm.ClassFile.FieldType), Jvm.Cond.code ({ cls := "java/lang/Object", name := "<init>", desc := "()V" } : Jvm.MethodName) object_method_1_code (1 : Nat) (Option.none : Option Jvm.ClassFile.FieldType), Jvm.Cond.code ({ cls := "java/lang/StringUTF16", name := "compress", desc := "([CII)[B" } : Jvm.MethodName) jdk_52_method_16_code (6 : Nat) (Option.some (Jvm.ClassFile.FieldType.array Jvm.ClassFile.FieldType.byte)), Jvm.Cond.code ({ cls := "java/lang/StringUTF16", name := "compress", desc := "([CI[BII)I" } : Jvm.MethodName) jdk_52_method_21_code (7 : Nat) (Option.some Jvm.ClassFile.FieldType.int), Jvm.Cond.code ({ cls := "java/lang/StringUTF16", name := "coderFromArrayLen", desc := "([BI)B" } : Jvm.MethodName) jdk_52_method_15_code (2 : Nat) (Option.some Jvm.ClassFile.FieldType.byte), Jvm.Cond.code ({ cls := "hornwright/model/Variable", name := "<init>", desc := "(Ljava/lang/String;I)V" } : Jvm.MethodName) prog_53_method_1_code (3 : Nat) (Option.none : Option Jvm.ClassFile.FieldType), Jvm.Cond.code ({ cls := "java/lang/Record", name := "<init>", desc := "()V" } : Jvm.MethodName) jdk_30_method_1_code (1 : Nat) (Option.none : Option Jvm.ClassFile.FieldType), Jvm.Cond.code ({ cls := "hornwright/model/Variable", name := "isAnonymous", desc := "()Z" } : Jvm.MethodName) prog_53_method_4_code (1 : Nat) (Option.some Jvm.ClassFile.FieldType.boolean), Jvm.Cond.code ({ cls := "hornwright/model/Variable", name := "named", desc := "(Ljava/lang/String;)Lhornwright/model/Variable;" } : Jvm.MethodName) prog_53_method_2_code (1 : Nat) (Option.some (Jvm.ClassFile.FieldType.object "hornwright/model/Variable")), Jvm.Cond.code ({ cls := "hornwright/model/Variable", name := "onlyAt", desc := "(IILhornwright/model/Variable;)Ljava/util/List;" } : Jvm.MethodName) prog_53_method_3_code (6 : Nat) (Option.some (Jvm.ClassFile.FieldType.object "java/util/List")), Jvm.Cond.code ({ cls := "java/util/ArrayList", name := "<init>", desc := "()V" } : Jvm.MethodName) jdk_38_method_2_code (1 : Nat) (Option.none : Option Jvm.ClassFile.FieldType), Jvm.Cond.code ({ cls := "java/util/AbstractList", name := "<init>", desc := "()V" } : Jvm.MethodName) jdk_39_method_1_code (1 : Nat) (Option.none : Option Jvm.ClassFile.FieldType), Jvm.Cond.code ({ cls := "java/util/AbstractCollection", name := "<init>", desc := "()V" } : Jvm.MethodName) jdk_22_method_1_code (1 : Nat) (Option.none : Option Jvm.ClassFile.FieldType), Jvm.Cond.code ({ cls := "java/util/ArrayList", name := "add", desc := "(Ljava/lang/Object;)Z" } : Jvm.MethodName) jdk_38_method_25_code (2 : Nat) (Option.some Jvm.ClassFile.FieldType.boolean), Jvm.Cond.code ({ cls := "java/util/ArrayList", name := "add", desc := "(Ljava/lang/Object;[Ljava/lang/Object;I)V" } : Jvm.MethodName) jdk_38_method_24_code (4 : Nat) (Option.none : Option Jvm.ClassFile.FieldType), Jvm.Cond.code ({ cls := "java/util/ArrayList", name := "grow", desc := "()[Ljava/lang/Object;" } : Jvm.MethodName) jdk_38_method_7_code (1 : Nat) (Option.some (Jvm.ClassFile.FieldType.array (Jvm.ClassFile.FieldType.object "java/lang/Object"))), Jvm.Cond.code ({ cls := "java/util/ArrayList", name := "grow", desc := "(I)[Ljava/lang/Object;" } : Jvm.MethodName) jdk_38_method_6_code (4 : Nat) (Option.some (Jvm.ClassFile.FieldType.array (Jvm.ClassFile.FieldType.object "java/lang/Object"))), Jvm.Cond.code ({ cls := "java/lang/Math", name := "max", desc := "(II)I" } : Jvm.MethodName) jdk_29_method_65_code (2 : Nat) (Option.some Jvm.ClassFile.FieldType.int), Jvm.Cond.code ({ cls := "java/util/ArrayList", name := "get", desc := "(I)Ljava/lang/Object;" } : Jvm.MethodName) jdk_38_method_20_code (2 : Nat) (Option.some (Jvm.ClassFile.FieldType.object "java/lang/Object")), Jvm.Cond.code ({ cls := "java/util/Objects", name := "checkIndex", desc := "(II)I" } : Jvm.MethodName) jdk_31_method_17_code (2 : Nat) (Option.some Jvm.ClassFile.FieldType.int), Jvm.Cond.code ({ cls := "jdk/internal/util/Preconditions", name := "checkIndex", desc := "(IILjava/util/function/BiFunction;)I" } : Jvm.MethodName) jdk_41_method_11_code (3 : Nat) (Option.some Jvm.ClassFile.FieldType.int), Jvm.Cond.code ({ cls := "java/util/ArrayList", name := "elementData", desc := "(I)Ljava/lang/Object;" } : Jvm.MethodName) jdk_38_method_18_code (2 : Nat) (Option.some (Jvm.ClassFile.FieldType.object "java/lang/Object"))]
set_option maxRecDepth 65536 in
theorem codes_eq : words1.filter isCode = codes1 := rfl
theorem w_codes : ∀ c ∈ words1.filter isCode, c.before args0 about1 = true := by
  rw [codes_eq]
  intro c hc
  simp only [codes1, List.mem_cons, List.not_mem_nil, or_false] at hc
  rcases hc with rfl | rfl | rfl | rfl | rfl | rfl | rfl | rfl | rfl | rfl | rfl | rfl | rfl | rfl | rfl | rfl | rfl | rfl | rfl | rfl | rfl | rfl | rfl | rfl
  · exact w_c0
  · exact w_c1
  · exact w_c2
  · exact w_c3
  · exact w_c4
  · exact w_c5
  · exact w_c6
  · exact w_c7
  · exact w_c8
  · exact w_c9
  · exact w_c10
  · exact w_c11
  · exact w_c12
  · exact w_c13
  · exact w_c14
  · exact w_c15
  · exact w_c16
  · exact w_c17
  · exact w_c18
  · exact w_c19
  · exact w_c20
  · exact w_c21
  · exact w_c22
  · exact w_c23
set_option maxRecDepth 65536 in
theorem w_t1 : (words1.take 24).all (fun c => isCode c || c.before args0 about1) = true := by decide +kernel
set_option maxRecDepth 65536 in
theorem w_t2 : ((words1.drop 24).take 24).all (fun c => isCode c || c.before args0 about1) = true := by decide +kernel
set_option maxRecDepth 65536 in
theorem w_t3 : (((words1.drop 24).drop 24).take 24).all (fun c => isCode c || c.before args0 about1) = true := by decide +kernel
set_option maxRecDepth 65536 in
theorem w_t4 : ((((words1.drop 24).drop 24).drop 24).take 24).all (fun c => isCode c || c.before args0 about1) = true := by decide +kernel
set_option maxRecDepth 65536 in
theorem w_t5 : (((((words1.drop 24).drop 24).drop 24).drop 24).take 24).all (fun c => isCode c || c.before args0 about1) = true := by decide +kernel
set_option maxRecDepth 65536 in
theorem w_t6 : (((((words1.drop 24).drop 24).drop 24).drop 24).drop 24).all (fun c => isCode c || c.before args0 about1) = true := by decide +kernel
theorem w_tables : (allAtoms (Jvm.Cond.code x code maxLocals ret :: tables_1)).before args0 about1 = true := by
  rw [allAtoms_all]
  show words1.all (fun c => c.before args0 about1) = true
  refine all_split ?_ w_codes
  rw [← List.take_append_drop 24 words1, List.all_append, w_t1, ← List.take_append_drop 24 (words1.drop 24), List.all_append, w_t2, ← List.take_append_drop 24 ((words1.drop 24).drop 24), List.all_append, w_t3, ← List.take_append_drop 24 (((words1.drop 24).drop 24).drop 24), List.all_append, w_t4, ← List.take_append_drop 24 ((((words1.drop 24).drop 24).drop 24).drop 24), List.all_append, w_t5, w_t6]
  rfl
set_option maxRecDepth 65536 in
theorem w_rest : rest_1_c.before args0 about1 = true := by decide +kernel
set_option maxRecDepth 65536 in
theorem w_case : (Jvm.Cond.and given_1 narrow_1).before args0 about1 = true := by decide +kernel
theorem w_applies : (headSpec (Jvm.Cond.code x code maxLocals ret :: tables_1) room_1).applies x e0.platform about1 = true :=
  (Spec.applies_iff w_frames).mpr ⟨w_running, w_runnable, w_alone, w_named, w_hears, w_ripe, w_room, w_tables⟩
theorem atStart : AtStart classFile x code maxLocals ret World_1 tables_1 room_1 Calls_1 rest_1 Pre_1 launch0 p0 e0 about1 theMethod args0 below0 :=
  ⟨lists_1, trivial, launch0.admits_env _ _ _, launch0.least_env, fairChoices_fair.cas, fairChoices_fair.clock, w_frames, w_args, w_heap, w_applies, trivial, w_rest, w_case⟩
end start1
theorem witness_1 : WitnessClaimed_1 := ⟨start1.p0, start1.e0, start1.about1, start1.theMethod, start1.args0, start1.below0, start1.atStart⟩
end Jvm.Pilot.@@N@@
