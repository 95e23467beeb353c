import JvmDerived
import JvmDerived.Pilot.@@N@@Statement
import JvmDerived.Pilot.@@N@@Code
set_option linter.unusedVariables false
set_option linter.unusedSimpArgs false
/- laws to paste: Road.backV (cut by pick.py; bodies as the Statement names them) -/
namespace Jvm.Pilot.@@N@@
namespace StrChars
open Jvm Sem ClassFile Op Lib Jvm.Stand Jvm.Free.XT Jvm.Free.ALB Jvm.Free.JM Jvm.Free
open Jvm.Lib.Cold (StaticIs)
/-- a char array whose places are chars -/
def Ch (a : Addr) (A : Cell) (U : State) : Prop := Arr .char a A U ∧ Typed .char A
theorem Ch.mv {a : Addr} {A : Cell} {U U' : State} (h : Ch a A U) (hal : U.vm.Alike U'.vm) (hh : U'.heap = U.heap) : Ch a A U' := ⟨h.1.mv hal hh, h.2⟩
theorem Ch.keep {a : Addr} {A : Cell} {U U' : State} (h : Ch a A U) (hal : U.vm.Alike U'.vm) (hk : U'.heap[a]? = some A) : Ch a A U' := ⟨h.1.keep hal hk, h.2⟩
/-- what place i of a char[]'s cell holds -/
def cv (A : Cell) (i : Nat) : Int32 := match A.slots[i]? with | some (.int x) => x | _ => 0
theorem Ch.get {a : Addr} {A : Cell} {U : State} (h : Ch a A U) {i : Nat} (hi : i < A.slots.size) : A.slots[i]? = some (.int (cv A i)) := by
  have e := Array.getElem?_eq_getElem hi
  have f := h.2 i _ e
  unfold cv; rw [e]
  generalize A.slots[i] = v at f
  cases v <;> simp [fits] at f ⊢
/-- the byte that i2b leaves of a char -/
def lo8 (x : Int32) : Int32 := x.toInt8.toInt32
theorem fits_lo8 (y : Int32) : fits .byte (.int (lo8 y)) = true := by
  have h1 := y.toInt8.le_toInt
  have h2 := y.toInt8.toInt_lt
  simp only [lo8, fits, Bool.and_eq_true, decide_eq_true_eq, Int32.le_iff_toInt_le, Int8.toInt_toInt32, show (-128 : Int32).toInt = -128 from by decide, show (127 : Int32).toInt = 127 from by decide]
  omega
/-- A' is A but that each place j of lo .. hi - 1 holds f j -/
def Laid (A A' : Cell) (lo hi : Nat) (f : Nat → Value) : Prop := A'.cls = A.cls ∧ A'.vm = A.vm ∧ A'.slots.size = A.slots.size ∧ ∀ i, A'.slots[i]? = if lo ≤ i ∧ i < hi then some (f i) else A.slots[i]?
theorem Laid.zero (A : Cell) (lo : Nat) (f : Nat → Value) : Laid A A lo (lo + 0) f := ⟨rfl, rfl, rfl, fun i => by rw [if_neg (by omega)]⟩
theorem Laid.step {A Ak : Cell} {lo k : Nat} {f : Nat → Value} {v : Value} (h : Laid A Ak lo k f) (hlo : lo ≤ k) (hk : k < Ak.slots.size) (hv : v = f k) : Laid A (Ak.setSlot k v) lo (k + 1) f := by
  refine ⟨h.1, h.2.1, by simpa [Cell.setSlot] using h.2.2.1, fun i => ?_⟩
  by_cases e : k = i
  · subst e; rw [Cell.slots_setSlot_self v hk, if_pos (by omega), hv]
  · rw [Cell.slots_setSlot_ne v e, h.2.2.2 i]
    by_cases q : lo ≤ i ∧ i < k
    · rw [if_pos q, if_pos (by omega)]
    · rw [if_neg q, if_neg (by omega)]
def U16 : String := "java/lang/StringUTF16"
namespace Cmp5
def yN : MethodName := ⟨"java/lang/StringUTF16", "compress", "([CI[BII)I"⟩
abbrev yB : ByteArray := jdk_52_method_21_code
theorem d0 : decode yB 0 = .ok (.iconst 0, 1) := by decide +kernel
theorem d1 : decode yB 1 = .ok (.istore 5, 2) := by decide +kernel
theorem d3 : decode yB 3 = .ok (.iload 5, 2) := by decide +kernel
theorem d5 : decode yB 5 = .ok (.iload 4, 2) := by decide +kernel
theorem d7 : decode yB 7 = .ok (.if_icmp (.ge) 37, 3) := by decide +kernel
theorem d10 : decode yB 10 = .ok (.aload_n 0, 1) := by decide +kernel
theorem d11 : decode yB 11 = .ok (.iload_n 1, 1) := by decide +kernel
theorem d12 : decode yB 12 = .ok (.caload, 1) := by decide +kernel
theorem d13 : decode yB 13 = .ok (.istore 6, 2) := by decide +kernel
theorem d15 : decode yB 15 = .ok (.iload 6, 2) := by decide +kernel
theorem d17 : decode yB 17 = .ok (.sipush 255, 3) := by decide +kernel
theorem d20 : decode yB 20 = .ok (.if_icmp (.le) 6, 3) := by decide +kernel
theorem d26 : decode yB 26 = .ok (.aload_n 2, 1) := by decide +kernel
theorem d27 : decode yB 27 = .ok (.iload_n 3, 1) := by decide +kernel
theorem d28 : decode yB 28 = .ok (.iload 6, 2) := by decide +kernel
theorem d30 : decode yB 30 = .ok (.i2b, 1) := by decide +kernel
theorem d31 : decode yB 31 = .ok (.bastore, 1) := by decide +kernel
theorem d32 : decode yB 32 = .ok (.iinc 1 1, 3) := by decide +kernel
theorem d35 : decode yB 35 = .ok (.iinc 3 1, 3) := by decide +kernel
theorem d38 : decode yB 38 = .ok (.iinc 5 1, 3) := by decide +kernel
theorem d41 : decode yB 41 = .ok (.goto (-38), 3) := by decide +kernel
theorem d44 : decode yB 44 = .ok (.iload 4, 2) := by decide +kernel
theorem d46 : decode yB 46 = .ok (.ireturn, 1) := by decide +kernel
def site : List Cond := []
def tab : Cond := tabOf yN yB 7 (some .int) site
def P (b : Addr) (A : Cell) (d : Addr) (B : Cell) (o q len : Nat) (args : Array Value) (s : State) : Prop := args = #[.ref b, .int (Int32.ofNat o), .ref d, .int (Int32.ofNat q), .int (Int32.ofNat len)] ∧ Ch b A s ∧ Arr .byte d B s ∧ b ≠ d ∧ o + len ≤ A.slots.size ∧ q + len ≤ B.slots.size ∧ ∀ i, i < len → ¬ 255 < cv A (o + i)
def E (b : Addr) (A : Cell) (d : Addr) (B : Cell) (o q len : Nat) (r : Option Value) (s u : State) : Prop := r = some (.int (Int32.ofNat len)) ∧ ∃ B', Put d B' s u ∧ Laid B B' q (q + len) (fun j => Value.int (lo8 (cv A (o + (j - q)))))
/-- no char of the range above 255: len; the places written hold each char's low byte -/
theorem law (l : Launch) (b : Addr) (A : Cell) (d : Addr) (B : Cell) (o q len : Nat) : Law l yN 5 5 0 0 yB 7 (some .int) site (P b A d B o q len) (E b A d B o q len) (copyLocs d q len) 0 0 := by
  refine Law.of_walk (plainFor_of_name (by decide +kernel)) (by decide +kernel) (by decide +kernel) (by decide) (fun _ _ h => by rw [h.1]; rfl) (fun _ U U' hal hh h => ⟨h.1, h.2.1.mv hal hh, h.2.2.1.mv hal hh, h.2.2.2⟩) (fun r U U' V V' h1 hal h2 h => ⟨h.1, h.2.elim fun B' q => ⟨B', q.1.mv h1 h2, q.2⟩⟩) ?_
  intro p e s m args below meth c s₁ X0 hexec hbytes hml hret hlk hnm hown hh0 W hP
  obtain ⟨rfl, hA, hB, hne, l1, l2, hp⟩ := hP
  have c1 : Steps p.tables e below (s₁.setTop (entryFrame m #[.ref b, .int (Int32.ofNat o), .ref d, .int (Int32.ofNat q), .int (Int32.ofNat len)] 7)) (s₁.setTop (mkF m 0 #[.val (.ref b), .val (.int (Int32.ofNat o)), .val (.ref d), .val (.int (Int32.ofNat q)), .val (.int (Int32.ofNat len)), .unset, .unset] [])) := entry rfl
  have hA0 := hA.1.mv X0.warmed.alike hh0
  have hB0 := hB.mv X0.warmed.alike hh0
  have a31 := hA.1.2.2.2
  have c2 : Steps p.tables e below (s₁.setTop (entryFrame m #[.ref b, .int (Int32.ofNat o), .ref d, .int (Int32.ofNat q), .int (Int32.ofNat len)] 7)) (s₁.setTop (mkF m 3 #[.val (.ref b), .val (.int (Int32.ofNat o)), .val (.ref d), .val (.int (Int32.ofNat q)), .val (.int (Int32.ofNat len)), .val (.int 0), .unset] [])) := c1.trans (by
    refine iconstV X0.here hexec rfl 0 (hb hbytes d0) (by decide) ?_
    refine XS.istore X0.here hexec rfl (hb hbytes d1) rfl rfl ?_
    exact Steps.refl _)
  have loop : ∀ (r i : Nat), i + r = len → ∀ (z : Slot), (z = .unset ∨ ∃ w, z = .val w ∧ w.category = 1) → ∀ (Tl : State) (Bk : Cell), Stand p l e { frames := 0, locals := 0, cells := 0, slots := 0 } s m #[.ref b, .int (Int32.ofNat o), .ref d, .int (Int32.ofNat q), .int (Int32.ofNat len)] below meth c Tl ([] ++ copyLocs d q i) 0 0 → Put d Bk s₁ Tl → Laid B Bk q (q + i) (fun j => Value.int (lo8 (cv A (o + (j - q))))) →
      Steps p.tables e below (s₁.setTop (entryFrame m #[.ref b, .int (Int32.ofNat o), .ref d, .int (Int32.ofNat q), .int (Int32.ofNat len)] 7)) (Tl.setTop (mkF m 3 #[.val (.ref b), .val (.int (Int32.ofNat (o + i))), .val (.ref d), .val (.int (Int32.ofNat (q + i))), .val (.int (Int32.ofNat len)), .val (.int (Int32.ofNat i)), z] [])) → ∃ (T' : State) (B' : Cell) (z' : Slot), Stand p l e { frames := 0, locals := 0, cells := 0, slots := 0 } s m #[.ref b, .int (Int32.ofNat o), .ref d, .int (Int32.ofNat q), .int (Int32.ofNat len)] below meth c T' ([] ++ copyLocs d q len) 0 0 ∧ Put d B' s₁ T' ∧ Laid B B' q (q + len) (fun j => Value.int (lo8 (cv A (o + (j - q))))) ∧
      Steps p.tables e below (s₁.setTop (entryFrame m #[.ref b, .int (Int32.ofNat o), .ref d, .int (Int32.ofNat q), .int (Int32.ofNat len)] 7)) (T'.setTop (mkF m 3 #[.val (.ref b), .val (.int (Int32.ofNat (o + len))), .val (.ref d), .val (.int (Int32.ofNat (q + len))), .val (.int (Int32.ofNat len)), .val (.int (Int32.ofNat len)), z'] [])) := by
    intro r
    induction r with
    | zero =>
      intro i hi z hz Tl Bk Xl pl fl cl
      have hil : i = len := by omega
      rw [hil] at Xl fl cl
      exact ⟨Tl, Bk, z, Xl, pl, fl, cl⟩
    | succ r ih =>
      intro i hi z hz Tl Bk Xl pl fl cl
      have all := X0.warmed.alike.symm.trans Xl.warmed.alike
      have hAl := hA0.keep all (pl.other hne hA0.1)
      have hBk := hB0.like all pl.1 fl.1 fl.2.1 fl.2.2.1
      have hlt : q + i < Bk.slots.size := by rw [fl.2.2.1]; omega
      have c3 : Steps p.tables e below (s₁.setTop (entryFrame m #[.ref b, .int (Int32.ofNat o), .ref d, .int (Int32.ofNat q), .int (Int32.ofNat len)] 7)) (Tl.setTop (mkF m 12 #[.val (.ref b), .val (.int (Int32.ofNat (o + i))), .val (.ref d), .val (.int (Int32.ofNat (q + i))), .val (.int (Int32.ofNat len)), .val (.int (Int32.ofNat i)), z] [.int (Int32.ofNat (o + i)), .ref b])) := cl.trans (by
        refine XS.iload Xl.here hexec rfl (hb hbytes d3) rfl ?_
        refine XS.iload Xl.here hexec rfl (hb hbytes d5) rfl ?_
        refine XS.icmpNo Xl.here hexec rfl (hb hbytes d7) rfl (ii_ge_f (lt32 (by omega) (by omega))) ?_
        refine XS.aloadN Xl.here hexec rfl (hb hbytes d10) rfl rfl ?_
        refine XS.iloadN Xl.here hexec rfl (hb hbytes d11) rfl ?_
        exact Steps.refl _)
      have c4 : Steps p.tables e below (s₁.setTop (entryFrame m #[.ref b, .int (Int32.ofNat o), .ref d, .int (Int32.ofNat q), .int (Int32.ofNat len)] 7)) (Tl.setTop (mkF m 13 #[.val (.ref b), .val (.int (Int32.ofNat (o + i))), .val (.ref d), .val (.int (Int32.ofNat (q + i))), .val (.int (Int32.ofNat len)), .val (.int (Int32.ofNat i)), z] [.int (cv A (o + i))])) := c3.trans (by
        refine Xl.aget hexec hAl rfl (hA.get (i := o + i) (by omega)) rfl rfl (hb hbytes d12) ?_
        exact Steps.refl _)
      have c5 : Steps p.tables e below (s₁.setTop (entryFrame m #[.ref b, .int (Int32.ofNat o), .ref d, .int (Int32.ofNat q), .int (Int32.ofNat len)] 7)) (Tl.setTop (mkF m 15 #[.val (.ref b), .val (.int (Int32.ofNat (o + i))), .val (.ref d), .val (.int (Int32.ofNat (q + i))), .val (.int (Int32.ofNat len)), .val (.int (Int32.ofNat i)), .val (.int (cv A (o + i)))] [])) := c4.trans (by
        refine XS.istoreS Xl.here hexec rfl (hb hbytes d13) rfl rfl hz ?_
        exact Steps.refl _)
      have c6 : Steps p.tables e below (s₁.setTop (entryFrame m #[.ref b, .int (Int32.ofNat o), .ref d, .int (Int32.ofNat q), .int (Int32.ofNat len)] 7)) (Tl.setTop (mkF m 31 #[.val (.ref b), .val (.int (Int32.ofNat (o + i))), .val (.ref d), .val (.int (Int32.ofNat (q + i))), .val (.int (Int32.ofNat len)), .val (.int (Int32.ofNat i)), .val (.int (cv A (o + i)))] [.int (lo8 (cv A (o + i))), .int (Int32.ofNat (q + i)), .ref d])) := c5.trans (by
        refine XS.iload Xl.here hexec rfl (hb hbytes d15) rfl ?_
        refine sipushV Xl.here hexec rfl 255 (hb hbytes d17) (by decide) ?_
        refine XS.icmpYes Xl.here hexec rfl (pc0 := 20) rfl (hb hbytes d20) rfl (ii_le_t (hp i (by omega))) (by decide) rfl ?_
        refine XS.aloadN Xl.here hexec rfl (hb hbytes d26) rfl rfl ?_
        refine XS.iloadN Xl.here hexec rfl (hb hbytes d27) rfl ?_
        refine XS.iload Xl.here hexec rfl (hb hbytes d28) rfl ?_
        refine i2b Xl.here hexec rfl (hb hbytes d30) rfl ?_
        exact Steps.refl _)
      obtain ⟨T7, X7, p7, st7⟩ := Xl.aput hexec hBk rfl hlt rfl (fits_lo8 (cv A (o + i))) (g := (mkF m 31 #[.val (.ref b), .val (.int (Int32.ofNat (o + i))), .val (.ref d), .val (.int (Int32.ofNat (q + i))), .val (.int (Int32.ofNat len)), .val (.int (Int32.ofNat i)), .val (.int (cv A (o + i)))] [.int (lo8 (cv A (o + i))), .int (Int32.ofNat (q + i)), .ref d])) rfl (rest := []) rfl (hb hbytes d31)
      have c8 : Steps p.tables e below (s₁.setTop (entryFrame m #[.ref b, .int (Int32.ofNat o), .ref d, .int (Int32.ofNat q), .int (Int32.ofNat len)] 7)) (T7.setTop (mkF m 32 #[.val (.ref b), .val (.int (Int32.ofNat (o + i))), .val (.ref d), .val (.int (Int32.ofNat (q + i))), .val (.int (Int32.ofNat len)), .val (.int (Int32.ofNat i)), .val (.int (cv A (o + i)))] [])) := c6.trans (st7 _ (Steps.refl _))
      have c9 : Steps p.tables e below (s₁.setTop (entryFrame m #[.ref b, .int (Int32.ofNat o), .ref d, .int (Int32.ofNat q), .int (Int32.ofNat len)] 7)) (T7.setTop (mkF m 3 #[.val (.ref b), .val (.int (Int32.ofNat (o + i) + 1)), .val (.ref d), .val (.int (Int32.ofNat (q + i) + 1)), .val (.int (Int32.ofNat len)), .val (.int (Int32.ofNat i + 1)), .val (.int (cv A (o + i)))] [])) := c8.trans (by
        refine iincV X7.here hexec rfl 1 (hb hbytes d32) (by decide) rfl rfl ?_
        refine iincV X7.here hexec rfl 1 (hb hbytes d35) (by decide) rfl rfl ?_
        refine iincV X7.here hexec rfl 1 (hb hbytes d38) (by decide) rfl rfl ?_
        refine XS.goto X7.here hexec rfl (pc0 := 41) rfl (hb hbytes d41) (by decide) rfl ?_
        exact Steps.refl _)
      have c10 : Steps p.tables e below (s₁.setTop (entryFrame m #[.ref b, .int (Int32.ofNat o), .ref d, .int (Int32.ofNat q), .int (Int32.ofNat len)] 7)) (T7.setTop (mkF m 3 #[.val (.ref b), .val (.int (Int32.ofNat (o + (i + 1)))), .val (.ref d), .val (.int (Int32.ofNat (q + (i + 1)))), .val (.int (Int32.ofNat len)), .val (.int (Int32.ofNat (i + 1))), .val (.int (cv A (o + i)))] [])) := by
        have := c9
        rw [succ32, succ32, succ32] at this
        exact this
      exact ih (i + 1) (by omega) _ (Or.inr ⟨_, rfl, rfl⟩) T7 _ (by rw [copyLocs_step, ← List.append_assoc]; exact X7) (pl.trans p7) (fl.step (by omega) hlt (by simp)) c10
  obtain ⟨T9, B9, z9, X9, p9, f9, g9⟩ := loop len 0 (by omega) .unset (Or.inl rfl) s₁ B (by simpa [copyLocs] using X0) ⟨hB0.1, fun _ _ => rfl, rfl⟩ (Laid.zero _ _ _) c2
  have c11 : Steps p.tables e below (s₁.setTop (entryFrame m #[.ref b, .int (Int32.ofNat o), .ref d, .int (Int32.ofNat q), .int (Int32.ofNat len)] 7)) (T9.setTop (mkF m 46 #[.val (.ref b), .val (.int (Int32.ofNat (o + len))), .val (.ref d), .val (.int (Int32.ofNat (q + len))), .val (.int (Int32.ofNat len)), .val (.int (Int32.ofNat len)), z9] [.int (Int32.ofNat len)])) := g9.trans (by
    refine XS.iload X9.here hexec rfl (hb hbytes d3) rfl ?_
    refine XS.iload X9.here hexec rfl (hb hbytes d5) rfl ?_
    refine XS.icmpYes X9.here hexec rfl (pc0 := 7) rfl (hb hbytes d7) rfl (ii_ge_t (nlt32 (by omega) (Nat.le_refl _))) (by decide) rfl ?_
    refine XS.iload X9.here hexec rfl (hb hbytes d44) rfl ?_
    exact Steps.refl _)
  exact ⟨T9, some (.int (Int32.ofNat len)), _, _, _, X9, by simp, rfl, rfl, (fun h => by cases h), ⟨rfl, B9, p9.from hh0, f9⟩, fun fs hl => c11.trans (X9.ireturnOut hexec hret rfl (Or.inl rfl) (hb hbytes d46) hl)⟩
end Cmp5
namespace Cmp3
def yN : MethodName := ⟨"java/lang/StringUTF16", "compress", "([CII)[B"⟩
abbrev yB : ByteArray := jdk_52_method_16_code
theorem d0 : decode yB 0 = .ok (.iload_n 2, 1) := by decide +kernel
theorem d1 : decode yB 1 = .ok (.newarray .byte, 2) := by decide +kernel
theorem d3 : decode yB 3 = .ok (.astore_n 3, 1) := by decide +kernel
theorem d4 : decode yB 4 = .ok (.aload_n 0, 1) := by decide +kernel
theorem d5 : decode yB 5 = .ok (.iload_n 1, 1) := by decide +kernel
theorem d6 : decode yB 6 = .ok (.aload_n 3, 1) := by decide +kernel
theorem d7 : decode yB 7 = .ok (.iconst 0, 1) := by decide +kernel
theorem d8 : decode yB 8 = .ok (.iload_n 2, 1) := by decide +kernel
theorem d9 : decode yB 9 = .ok (.invokestatic 115, 3) := by decide +kernel
theorem d12 : decode yB 12 = .ok (.istore 4, 2) := by decide +kernel
theorem d14 : decode yB 14 = .ok (.iload 4, 2) := by decide +kernel
theorem d16 : decode yB 16 = .ok (.iload_n 2, 1) := by decide +kernel
theorem d17 : decode yB 17 = .ok (.if_icmp (.eq) 40, 3) := by decide +kernel
theorem d57 : decode yB 57 = .ok (.aload_n 3, 1) := by decide +kernel
theorem d58 : decode yB 58 = .ok (.areturn, 1) := by decide +kernel
def site : List Cond := [.arrayClass .byte, Cmp5.tab] ++ staticW U16 115 Cmp5.yN
def tab : Cond := tabOf yN yB 6 (some (.array .byte)) site
def P (b : Addr) (A : Cell) (o len : Nat) (args : Array Value) (s : State) : Prop := args = #[.ref b, .int (Int32.ofNat o), .int (Int32.ofNat len)] ∧ Ch b A s ∧ o + len ≤ A.slots.size ∧ len ≤ 536870912 ∧ ∀ i, i < len → ¬ 255 < cv A (o + i)
def E (b : Addr) (A : Cell) (o len : Nat) (r : Option Value) (s u : State) : Prop := NewArr .byte "[B" len (fun j => .int (lo8 (cv A (o + j)))) r s u ∧ u.heap.size = s.heap.size + 1
/-- no char of the range above 255: a new byte[] of their low bytes -/
theorem law (l : Launch) (b : Addr) (A : Cell) (o len : Nat) : Law l yN 3 3 1 18 yB 6 (some (.array .byte)) site (P b A o len) (E b A o len) [] 1 len := by
  refine Law.of_walk (plainFor_of_name (by decide +kernel)) (by decide +kernel) (by decide +kernel) (by decide) (fun _ _ h => by rw [h.1]; rfl) (fun _ U U' hal hh h => ⟨h.1, h.2.1.mv hal hh, h.2.2⟩) (fun r U U' V V' h1 hal h2 h => ⟨NewArr.mv r U U' V V' h1 hal h2 h.1, by rw [h1, h2]; exact h.2⟩) ?_
  intro p e s m args below meth c s₁ X0 hexec hbytes hml hret hlk hnm hown hh0 W hP
  obtain ⟨rfl, hA, l1, l2, hp⟩ := hP
  have a31 := hA.1.2.2.2
  have c1 : Steps p.tables e below (s₁.setTop (entryFrame m #[.ref b, .int (Int32.ofNat o), .int (Int32.ofNat len)] 6)) (s₁.setTop (mkF m 0 #[.val (.ref b), .val (.int (Int32.ofNat o)), .val (.int (Int32.ofNat len)), .unset, .unset, .unset] [])) := entry rfl
  have c2 : Steps p.tables e below (s₁.setTop (entryFrame m #[.ref b, .int (Int32.ofNat o), .int (Int32.ofNat len)] 6)) (s₁.setTop (mkF m 1 #[.val (.ref b), .val (.int (Int32.ofNat o)), .val (.int (Int32.ofNat len)), .unset, .unset, .unset] [.int (Int32.ofNat len)])) := c1.trans (by
    refine XS.iloadN X0.here hexec rfl (hb hbytes d0) rfl ?_
    exact Steps.refl _)
  obtain ⟨T3, B3, X3, ba3, bs3, bv3, bh3, bf3, st3⟩ := X0.anew hexec (atype := .byte) (wk W (.arrayClass .byte)) rfl (by show len * 1 ≤ _; omega) (by omega) (g := (mkF m 1 #[.val (.ref b), .val (.int (Int32.ofNat o)), .val (.int (Int32.ofNat len)), .unset, .unset, .unset] [.int (Int32.ofNat len)])) rfl (hb hbytes d1) (rest := []) rfl (Nat.le_refl _) (by show 0 + len ≤ len; omega)
  rw [hh0] at ba3 st3
  have kp3 : XT.Kept s T3 := (XT.Kept.of_eq hh0).push bh3
  have hA3 := hA.keep X3.warmed.alike (kp3 _ _ hA.1.1)
  have hne : b ≠ s.heap.size := hA.1.ne
  have c4 : Steps p.tables e below (s₁.setTop (entryFrame m #[.ref b, .int (Int32.ofNat o), .int (Int32.ofNat len)] 6)) (T3.setTop (mkF m 3 #[.val (.ref b), .val (.int (Int32.ofNat o)), .val (.int (Int32.ofNat len)), .unset, .unset, .unset] [.ref s.heap.size])) := c2.trans (st3 _ (Steps.refl _))
  have c5 : Steps p.tables e below (s₁.setTop (entryFrame m #[.ref b, .int (Int32.ofNat o), .int (Int32.ofNat len)] 6)) (T3.setTop (mkF m 9 #[.val (.ref b), .val (.int (Int32.ofNat o)), .val (.int (Int32.ofNat len)), .val (.ref s.heap.size), .unset, .unset] [.int (Int32.ofNat len), .int 0, .ref s.heap.size, .int (Int32.ofNat o), .ref b])) := c4.trans (by
    refine XS.astoreN X3.here hexec rfl (hb hbytes d3) rfl rfl rfl ?_
    refine XS.aloadN X3.here hexec rfl (hb hbytes d4) rfl rfl ?_
    refine XS.iloadN X3.here hexec rfl (hb hbytes d5) rfl ?_
    refine XS.aloadN X3.here hexec rfl (hb hbytes d6) rfl rfl ?_
    refine iconstV X3.here hexec rfl 0 (hb hbytes d7) (by decide) ?_
    refine XS.iloadN X3.here hexec rfl (hb hbytes d8) rfl ?_
    exact Steps.refl _)
  obtain ⟨v6, T6, X6, E6, g6⟩ := X3.callS hexec (Cmp5.law l b A s.heap.size B3 o 0 len) hown (wks W (staticW U16 115 Cmp5.yN)) (wk W Cmp5.tab) (W := 0) (Nat.le_of_ble_eq_true rfl) (Nat.le_of_ble_eq_true rfl) (Nat.le_refl _) (by show 0 + len + 0 ≤ len; omega) (g := (mkF m 9 #[.val (.ref b), .val (.int (Int32.ofNat o)), .val (.int (Int32.ofNat len)), .val (.ref s.heap.size), .unset, .unset] [.int (Int32.ofNat len), .int (Int32.ofNat 0), .ref s.heap.size, .int (Int32.ofNat o), .ref b])) rfl (by rw [hml]; rfl) c5 (argsL := [.ref b, .int (Int32.ofNat o), .ref s.heap.size, .int (Int32.ofNat 0), .int (Int32.ofNat len)]) (rest := []) rfl rfl (by show 2 * 0 + 0 ≤ _; decide) (hb hbytes d9) (⟨rfl, hA3, ba3, hne, l1, by rw [bs3]; simp, hp⟩)
  obtain ⟨rfl, B6, p6, f6⟩ := E6
  have c7 : Steps p.tables e below (s₁.setTop (entryFrame m #[.ref b, .int (Int32.ofNat o), .int (Int32.ofNat len)] 6)) (T6.setTop (mkF m 12 #[.val (.ref b), .val (.int (Int32.ofNat o)), .val (.int (Int32.ofNat len)), .val (.ref s.heap.size), .unset, .unset] [.int (Int32.ofNat len)])) := g6
  have c8 : Steps p.tables e below (s₁.setTop (entryFrame m #[.ref b, .int (Int32.ofNat o), .int (Int32.ofNat len)] 6)) (T6.setTop (mkF m 58 #[.val (.ref b), .val (.int (Int32.ofNat o)), .val (.int (Int32.ofNat len)), .val (.ref s.heap.size), .val (.int (Int32.ofNat len)), .unset] [.ref s.heap.size])) := c7.trans (by
    refine XS.istore X6.here hexec rfl (hb hbytes d12) rfl rfl ?_
    refine XS.iload X6.here hexec rfl (hb hbytes d14) rfl ?_
    refine XS.iloadN X6.here hexec rfl (hb hbytes d16) rfl ?_
    refine XS.icmpYes X6.here hexec rfl (pc0 := 17) rfl (hb hbytes d17) rfl (ii_eq_t rfl) (by decide) rfl ?_
    refine XS.aloadN X6.here hexec rfl (hb hbytes d57) rfl rfl ?_
    exact Steps.refl _)
  have X8 := X6.wide (L' := []) (cells' := 1) (slots' := len) (fun x hx hlt => by
    simp only [List.nil_append, copyLocs, List.mem_map, List.mem_range] at hx
    obtain ⟨i, -, rfl⟩ := hx
    exact absurd hlt (Nat.lt_irrefl _)) (Nat.le_refl _) (by omega)
  exact ⟨T6, some (.ref s.heap.size), _, _, _, X8, rfl, rfl, rfl, (fun h => by cases h), ⟨⟨rfl, B6, ba3.like (X3.warmed.alike.symm.trans X6.warmed.alike) p6.1 f6.1 f6.2.1 f6.2.2.1, f6.2.1.trans bv3, by rw [X6.warmed.alike.findClass, f6.1]; exact bf3, by rw [f6.2.2.1, bs3]; simp, fun j hj => by rw [f6.2.2.2 j, if_pos (by omega)]; rfl, kp3.put p6 (Nat.le_refl _)⟩, by rw [p6.2.2, bh3, hh0]; simp⟩, fun fs hl => c8.trans (X8.areturnOut hexec rfl hret rfl (hb hbytes d58) hl)⟩
end Cmp3
namespace CodL
def yN : MethodName := ⟨"java/lang/StringUTF16", "coderFromArrayLen", "([BI)B"⟩
abbrev yB : ByteArray := jdk_52_method_15_code
theorem d0 : decode yB 0 = .ok (.iload_n 1, 1) := by decide +kernel
theorem d1 : decode yB 1 = .ok (.aload_n 0, 1) := by decide +kernel
theorem d2 : decode yB 2 = .ok (.arraylength, 1) := by decide +kernel
theorem d3 : decode yB 3 = .ok (.isub, 1) := by decide +kernel
theorem d4 : decode yB 4 = .ok (.bipush 31, 2) := by decide +kernel
theorem d6 : decode yB 6 = .ok (.iushr, 1) := by decide +kernel
theorem d7 : decode yB 7 = .ok (.i2b, 1) := by decide +kernel
theorem d8 : decode yB 8 = .ok (.ireturn, 1) := by decide +kernel
def site : List Cond := []
def tab : Cond := tabOf yN yB 2 (some .byte) site
def P (d : Addr) (B : Cell) (args : Array Value) (s : State) : Prop := args = #[.ref d, .int (Int32.ofNat B.slots.size)] ∧ Arr .byte d B s
def E (r : Option Value) (s u : State) : Prop := XT.PureE (some (.int 0)) r s u
/-- an array as long as the number of chars: LATIN1 -/
theorem law (l : Launch) (d : Addr) (B : Cell) : Law l yN 2 2 0 0 yB 2 (some .byte) site (P d B) E [] 0 0 := by
  refine Law.of_walk (plainFor_of_name (by decide +kernel)) (by decide +kernel) (by decide +kernel) (by decide) (fun _ _ h => by rw [h.1]; rfl) (fun _ U U' hal hh h => ⟨h.1, h.2.mv hal hh⟩) (fun r U U' V V' h1 hal h2 h => XT.PureE.mv r U U' V V' h1 hal h2 h) ?_
  intro p e s m args below meth c s₁ X0 hexec hbytes hml hret hlk hnm hown hh0 W hP
  obtain ⟨rfl, hB⟩ := hP
  have hB0 := hB.mv X0.warmed.alike hh0
  have c1 : Steps p.tables e below (s₁.setTop (entryFrame m #[.ref d, .int (Int32.ofNat B.slots.size)] 2)) (s₁.setTop (mkF m 0 #[.val (.ref d), .val (.int (Int32.ofNat B.slots.size))] [])) := entry rfl
  have c2 : Steps p.tables e below (s₁.setTop (entryFrame m #[.ref d, .int (Int32.ofNat B.slots.size)] 2)) (s₁.setTop (mkF m 2 #[.val (.ref d), .val (.int (Int32.ofNat B.slots.size))] [.ref d, .int (Int32.ofNat B.slots.size)])) := c1.trans (by
    refine XS.iloadN X0.here hexec rfl (hb hbytes d0) rfl ?_
    refine XS.aloadN X0.here hexec rfl (hb hbytes d1) rfl rfl ?_
    exact Steps.refl _)
  have c3 : Steps p.tables e below (s₁.setTop (entryFrame m #[.ref d, .int (Int32.ofNat B.slots.size)] 2)) (s₁.setTop (mkF m 8 #[.val (.ref d), .val (.int (Int32.ofNat B.slots.size))] [.int (lo8 (ushr (Int32.ofNat B.slots.size - Int32.ofNat B.slots.size) 31))])) := c2.trans (by
    refine X0.alen hexec hB0 rfl rfl (hb hbytes d2) ?_
    refine XS.isub X0.here hexec rfl (hb hbytes d3) rfl ?_
    refine bipushV X0.here hexec rfl 31 (hb hbytes d4) (by decide) ?_
    refine iushr X0.here hexec rfl (hb hbytes d6) rfl ?_
    refine i2b X0.here hexec rfl (hb hbytes d7) rfl ?_
    exact Steps.refl _)
  have e0 : lo8 (ushr (Int32.ofNat B.slots.size - Int32.ofNat B.slots.size) 31) = 0 := by rw [Int32.sub_self]; decide
  rw [e0] at c3
  exact ⟨s₁, some (.int 0), _, _, _, X0, rfl, rfl, rfl, (fun h => by cases h), ⟨rfl, hh0⟩, fun fs hl => c3.trans (X0.ireturnOut hexec hret rfl (Or.inr (Or.inr (Or.inl rfl))) (hb hbytes d8) hl)⟩
end CodL
/-- the String at a is Latin-1 over a new byte[] (the heap's one new cell): the low bytes of the len chars of A from o on; every cell but a is kept -/
def Got (a : Addr) (D : Cell) (fV fC : Field) (A : Cell) (o len : Nat) (r : Option Value) (s u : State) : Prop := r = none ∧ ∃ D' V : Cell, Blank "java/lang/String" a D' u ∧ Same D D' [fV.slot, fC.slot] ∧ D'.slots[fV.slot]? = some (.ref s.heap.size) ∧ D'.slots[fC.slot]? = some (.int 0) ∧ Arr .byte s.heap.size V u ∧ V.vm = .none ∧ u.vm.findClass "[B" = some V.cls ∧ V.slots.size = len ∧ (∀ j, j < len → V.slots[j]? = some (.int (lo8 (cv A (o + j))))) ∧ (∀ (y : Addr) (c : Cell), y ≠ a → s.heap[y]? = some c → u.heap[y]? = some c) ∧ u.heap.size = s.heap.size + 1
theorem Got.mv {a : Addr} {D A : Cell} {fV fC : Field} {o len : Nat} : ∀ r (U U' V V' : State), U'.heap = U.heap → V.vm.Alike V'.vm → V'.heap = V.heap → Got a D fV fC A o len r U V → Got a D fV fC A o len r U' V' :=
  fun r U U' V V' h1 hal h2 ⟨e0, D', X, a1, a2, a3, a4, a5, a6, a7, a8, a9, a10, a11⟩ => ⟨e0, D', X, a1.mv hal h2, a2, by rw [h1]; exact a3, a4, by rw [h1]; exact a5.mv hal h2, a6, by rw [hal.findClass]; exact a7, a8, a9, by rw [h1, h2]; exact a10, by rw [h1, h2]; exact a11⟩
namespace New4
def yN : MethodName := ⟨"java/lang/String", "<init>", "([CIILjava/lang/Void;)V"⟩
abbrev yB : ByteArray := jdk_42_method_149_code
theorem d0 : decode yB 0 = .ok (.aload_n 0, 1) := by decide +kernel
theorem d1 : decode yB 1 = .ok (.invokespecial 1, 3) := by decide +kernel
theorem d4 : decode yB 4 = .ok (.iload_n 3, 1) := by decide +kernel
theorem d5 : decode yB 5 = .ok (.ifCond (.ne) 22, 3) := by decide +kernel
theorem d27 : decode yB 27 = .ok (.getstatic 38, 3) := by decide +kernel
theorem d30 : decode yB 30 = .ok (.ifCond (.eq) 28, 3) := by decide +kernel
theorem d33 : decode yB 33 = .ok (.aload_n 1, 1) := by decide +kernel
theorem d34 : decode yB 34 = .ok (.iload_n 2, 1) := by decide +kernel
theorem d35 : decode yB 35 = .ok (.iload_n 3, 1) := by decide +kernel
theorem d36 : decode yB 36 = .ok (.invokestatic 177, 3) := by decide +kernel
theorem d39 : decode yB 39 = .ok (.astore 5, 2) := by decide +kernel
theorem d41 : decode yB 41 = .ok (.aload_n 0, 1) := by decide +kernel
theorem d42 : decode yB 42 = .ok (.aload 5, 2) := by decide +kernel
theorem d44 : decode yB 44 = .ok (.iload_n 3, 1) := by decide +kernel
theorem d45 : decode yB 45 = .ok (.invokestatic 47, 3) := by decide +kernel
theorem d48 : decode yB 48 = .ok (.putfield 15, 3) := by decide +kernel
theorem d51 : decode yB 51 = .ok (.aload_n 0, 1) := by decide +kernel
theorem d52 : decode yB 52 = .ok (.aload 5, 2) := by decide +kernel
theorem d54 : decode yB 54 = .ok (.putfield 9, 3) := by decide +kernel
theorem d57 : decode yB 57 = .ok (.return_, 1) := by decide +kernel
def site : List Cond := [.fieldLink "java/lang/String" 38 "java/lang/String" "COMPACT_STRINGS" "Z", Cmp3.tab, CodL.tab, .laysFinal "java/lang/String" "java/lang/String" "value" "[B", .fieldLink "java/lang/String" 9 "java/lang/String" "value" "[B", .laysFinal "java/lang/String" "java/lang/String" "coder" "B", .fieldLink "java/lang/String" 15 "java/lang/String" "coder" "B"] ++ objW "java/lang/String" 1 ++ staticW "java/lang/String" 177 Cmp3.yN ++ staticW "java/lang/String" 47 CodL.yN
def tab : Cond := tabOf yN yB 6 none site
def P (a : Addr) (D : Cell) (fV fC : Field) (b : Addr) (A : Cell) (z : Int32) (o len : Nat) (args : Array Value) (s : State) : Prop := args = #[.ref a, .ref b, .int (Int32.ofNat o), .int (Int32.ofNat len), .null] ∧ Blank "java/lang/String" a D s ∧ Found "java/lang/String" "value" "[B" fV s ∧ Found "java/lang/String" "coder" "B" fC s ∧ Ch b A s ∧ StaticIs s "java/lang/String" "COMPACT_STRINGS" "Z" (.int z) ∧ ¬ z = 0 ∧ 0 < len ∧ o + len ≤ A.slots.size ∧ len ≤ 536870912 ∧ ∀ i, i < len → ¬ 255 < cv A (o + i)
def E (a : Addr) (D : Cell) (fV fC : Field) (A : Cell) (o len : Nat) (r : Option Value) (s u : State) : Prop := Got a D fV fC A o len r s u
/-- len > 0, no char of the range above 255: a Latin-1 String of their low bytes -/
theorem law (l : Launch) (a : Addr) (D : Cell) (fV fC : Field) (b : Addr) (A : Cell) (z : Int32) (o len : Nat) : Law l yN 5 4 2 35 yB 6 none site (P a D fV fC b A z o len) (E a D fV fC A o len) [⟨a, fC.slot⟩, ⟨a, fV.slot⟩] 1 len := by
  refine Law.of_walk (plainFor_of_name (by decide +kernel)) (by decide +kernel) (by decide +kernel) (by decide) (fun _ _ h => by rw [h.1]; rfl) (fun _ U U' hal hh h => ⟨h.1, h.2.1.mv hal hh, h.2.2.1.al hal, h.2.2.2.1.al hal, h.2.2.2.2.1.mv hal hh, h.2.2.2.2.2.1.there hal hh, h.2.2.2.2.2.2⟩) (fun r U U' V V' h1 hal h2 h => Got.mv r U U' V V' h1 hal h2 h) ?_
  intro p e s m args below meth c s₁ X0 hexec hbytes hml hret hlk hnm hown hh0 W hP
  obtain ⟨rfl, hB, f1, f2, hA, s1, hz, l0, l1, l2, hp⟩ := hP
  have a31 := hA.1.2.2.2
  have c1 : Steps p.tables e below (s₁.setTop (entryFrame m #[.ref a, .ref b, .int (Int32.ofNat o), .int (Int32.ofNat len), .null] 6)) (s₁.setTop (mkF m 0 #[.val (.ref a), .val (.ref b), .val (.int (Int32.ofNat o)), .val (.int (Int32.ofNat len)), .val .null, .unset] [])) := entry rfl
  have c2 : Steps p.tables e below (s₁.setTop (entryFrame m #[.ref a, .ref b, .int (Int32.ofNat o), .int (Int32.ofNat len), .null] 6)) (s₁.setTop (mkF m 1 #[.val (.ref a), .val (.ref b), .val (.int (Int32.ofNat o)), .val (.int (Int32.ofNat len)), .val .null, .unset] [.ref a])) := c1.trans (by
    refine XS.aloadN X0.here hexec rfl (hb hbytes d0) rfl rfl ?_
    exact Steps.refl _)
  obtain ⟨T3, X3, q3, st3⟩ := X0.oinit hexec hown (wks W (objW "java/lang/String" 1)) (g := (mkF m 1 #[.val (.ref a), .val (.ref b), .val (.int (Int32.ofNat o)), .val (.int (Int32.ofNat len)), .val .null, .unset] [.ref a])) rfl (by rw [hml]; rfl) (rest := []) rfl (hb hbytes d1) (W := 0) (by show 2 * 0 + 0 ≤ _; decide) (Nat.le_of_ble_eq_true rfl) (Nat.le_of_ble_eq_true rfl)
  have hh3 := q3.trans hh0
  have c4 : Steps p.tables e below (s₁.setTop (entryFrame m #[.ref a, .ref b, .int (Int32.ofNat o), .int (Int32.ofNat len), .null] 6)) (T3.setTop (mkF m 27 #[.val (.ref a), .val (.ref b), .val (.int (Int32.ofNat o)), .val (.int (Int32.ofNat len)), .val .null, .unset] [])) := (c2.trans (st3 _ (Steps.refl _))).trans (by
    refine XS.iloadN X3.here hexec rfl (hb hbytes d4) rfl ?_
    refine XS.ifYes X3.here hexec rfl (pc0 := 5) rfl (hb hbytes d5) rfl (i0_ne_t (nz32 (by omega) l0)) (by decide) rfl ?_
    exact Steps.refl _)
  obtain ⟨T5, X5, q5, st5⟩ := X3.sget hexec hown (wk W (.fieldLink "java/lang/String" 38 "java/lang/String" "COMPACT_STRINGS" "Z")) s1 (fun _ _ h => by rw [hh3]; exact h) (g := (mkF m 27 #[.val (.ref a), .val (.ref b), .val (.int (Int32.ofNat o)), .val (.int (Int32.ofNat len)), .val .null, .unset] [])) rfl (hb hbytes d27)
  have hh5 := q5.trans hh3
  have c6 : Steps p.tables e below (s₁.setTop (entryFrame m #[.ref a, .ref b, .int (Int32.ofNat o), .int (Int32.ofNat len), .null] 6)) (T5.setTop (mkF m 30 #[.val (.ref a), .val (.ref b), .val (.int (Int32.ofNat o)), .val (.int (Int32.ofNat len)), .val .null, .unset] [.int z])) := c4.trans (st5 _ (Steps.refl _))
  have c7 : Steps p.tables e below (s₁.setTop (entryFrame m #[.ref a, .ref b, .int (Int32.ofNat o), .int (Int32.ofNat len), .null] 6)) (T5.setTop (mkF m 36 #[.val (.ref a), .val (.ref b), .val (.int (Int32.ofNat o)), .val (.int (Int32.ofNat len)), .val .null, .unset] [.int (Int32.ofNat len), .int (Int32.ofNat o), .ref b])) := c6.trans (by
    refine XS.ifNo X5.here hexec rfl (hb hbytes d30) rfl (i0_eq_f hz) ?_
    refine XS.aloadN X5.here hexec rfl (hb hbytes d33) rfl rfl ?_
    refine XS.iloadN X5.here hexec rfl (hb hbytes d34) rfl ?_
    refine XS.iloadN X5.here hexec rfl (hb hbytes d35) rfl ?_
    exact Steps.refl _)
  obtain ⟨v8, T8, X8, E8, g8⟩ := X5.callS hexec (Cmp3.law l b A o len) hown (wks W (staticW "java/lang/String" 177 Cmp3.yN)) (wk W Cmp3.tab) (W := 0) (Nat.le_of_ble_eq_true rfl) (Nat.le_of_ble_eq_true rfl) (Nat.le_refl _) (by show 0 + len ≤ len; omega) (g := (mkF m 36 #[.val (.ref a), .val (.ref b), .val (.int (Int32.ofNat o)), .val (.int (Int32.ofNat len)), .val .null, .unset] [.int (Int32.ofNat len), .int (Int32.ofNat o), .ref b])) rfl (by rw [hml]; rfl) c7 (argsL := [.ref b, .int (Int32.ofNat o), .int (Int32.ofNat len)]) (rest := []) rfl rfl (by show 2 * 0 + 0 ≤ _; decide) (hb hbytes d36) (⟨rfl, hA.mv X5.warmed.alike hh5, l1, l2, hp⟩)
  obtain ⟨e8, z8⟩ := E8
  obtain ⟨rfl, N, n1, n2, n3, n4, n5, n6⟩ := NewArr.mv _ T5 s _ _ hh5.symm (Vm.Alike.refl _) rfl e8
  rw [hh5] at z8
  have hB1 := hB.keep X8.warmed.alike (n6 _ _ hB.1)
  have hne : s.heap.size ≠ a := (Nat.ne_of_lt (Array.getElem?_eq_some_iff.mp hB.1).1).symm
  have c9 : Steps p.tables e below (s₁.setTop (entryFrame m #[.ref a, .ref b, .int (Int32.ofNat o), .int (Int32.ofNat len), .null] 6)) (T8.setTop (mkF m 39 #[.val (.ref a), .val (.ref b), .val (.int (Int32.ofNat o)), .val (.int (Int32.ofNat len)), .val .null, .unset] [.ref s.heap.size])) := g8
  have c10 : Steps p.tables e below (s₁.setTop (entryFrame m #[.ref a, .ref b, .int (Int32.ofNat o), .int (Int32.ofNat len), .null] 6)) (T8.setTop (mkF m 45 #[.val (.ref a), .val (.ref b), .val (.int (Int32.ofNat o)), .val (.int (Int32.ofNat len)), .val .null, .val (.ref s.heap.size)] [.int (Int32.ofNat N.slots.size), .ref s.heap.size, .ref a])) := by
    have hc : Steps p.tables e below (s₁.setTop (entryFrame m #[.ref a, .ref b, .int (Int32.ofNat o), .int (Int32.ofNat len), .null] 6)) (T8.setTop (mkF m 45 #[.val (.ref a), .val (.ref b), .val (.int (Int32.ofNat o)), .val (.int (Int32.ofNat len)), .val .null, .val (.ref s.heap.size)] [.int (Int32.ofNat len), .ref s.heap.size, .ref a])) := c9.trans (by
      refine XS.astore X8.here hexec rfl (hb hbytes d39) rfl rfl rfl ?_
      refine XS.aloadN X8.here hexec rfl (hb hbytes d41) rfl rfl ?_
      refine XS.aload X8.here hexec rfl (hb hbytes d42) rfl rfl ?_
      refine XS.iloadN X8.here hexec rfl (hb hbytes d44) rfl ?_
      exact Steps.refl _)
    rw [n4]; exact hc
  obtain ⟨v11, T11, X11, E11, g11⟩ := X8.callS hexec (CodL.law l s.heap.size N) hown (wks W (staticW "java/lang/String" 47 CodL.yN)) (wk W CodL.tab) (W := 1) (Nat.le_of_ble_eq_true rfl) (Nat.le_of_ble_eq_true rfl) (Nat.le_refl _) (by show 0 + len + 0 ≤ len; omega) (g := (mkF m 45 #[.val (.ref a), .val (.ref b), .val (.int (Int32.ofNat o)), .val (.int (Int32.ofNat len)), .val .null, .val (.ref s.heap.size)] [.int (Int32.ofNat N.slots.size), .ref s.heap.size, .ref a])) rfl (by rw [hml]; rfl) c10 (argsL := [.ref s.heap.size, .int (Int32.ofNat N.slots.size)]) (rest := [.ref a]) rfl rfl (by show 2 * 0 + (1 + 0) ≤ _; decide) (hb hbytes d45) (⟨rfl, n1⟩)
  obtain ⟨rfl, q11⟩ := E11
  have hB11 := hB1.mv (X8.warmed.alike.symm.trans X11.warmed.alike) q11
  have c12 : Steps p.tables e below (s₁.setTop (entryFrame m #[.ref a, .ref b, .int (Int32.ofNat o), .int (Int32.ofNat len), .null] 6)) (T11.setTop (mkF m 48 #[.val (.ref a), .val (.ref b), .val (.int (Int32.ofNat o)), .val (.int (Int32.ofNat len)), .val .null, .val (.ref s.heap.size)] [.int 0, .ref a])) := g11
  obtain ⟨T13, X13, p13, bl13, sl13, st13⟩ := X11.finit hexec hown (wk W (.fieldLink "java/lang/String" 15 "java/lang/String" "coder" "B")) (Or.inr ⟨_, (wk W (.laysFinal "java/lang/String" "java/lang/String" "coder" "B"))⟩) (Or.inl ⟨rfl, hnm⟩) f2 (Or.inl rfl) hB11 (t := .byte) (by decide +kernel) rfl (g := (mkF m 48 #[.val (.ref a), .val (.ref b), .val (.int (Int32.ofNat o)), .val (.int (Int32.ofNat len)), .val .null, .val (.ref s.heap.size)] [.int 0, .ref a])) rfl (rest := []) rfl (hb hbytes d48)
  have c14 : Steps p.tables e below (s₁.setTop (entryFrame m #[.ref a, .ref b, .int (Int32.ofNat o), .int (Int32.ofNat len), .null] 6)) (T13.setTop (mkF m 54 #[.val (.ref a), .val (.ref b), .val (.int (Int32.ofNat o)), .val (.int (Int32.ofNat len)), .val .null, .val (.ref s.heap.size)] [.ref s.heap.size, .ref a])) := (c12.trans (st13 _ (Steps.refl _))).trans (by
    refine XS.aloadN X13.here hexec rfl (hb hbytes d51) rfl rfl ?_
    refine XS.aload X13.here hexec rfl (hb hbytes d52) rfl rfl ?_
    exact Steps.refl _)
  obtain ⟨T15, X15, p15, bl15, sl15, st15⟩ := X13.finit hexec hown (wk W (.fieldLink "java/lang/String" 9 "java/lang/String" "value" "[B")) (Or.inr ⟨_, (wk W (.laysFinal "java/lang/String" "java/lang/String" "value" "[B"))⟩) (Or.inl ⟨rfl, hnm⟩) f1 (Or.inl rfl) bl13 (t := (.array .byte)) (by decide +kernel) rfl (g := (mkF m 54 #[.val (.ref a), .val (.ref b), .val (.int (Int32.ofNat o)), .val (.int (Int32.ofNat len)), .val .null, .val (.ref s.heap.size)] [.ref s.heap.size, .ref a])) rfl (rest := []) rfl (hb hbytes d54)
  have c16 : Steps p.tables e below (s₁.setTop (entryFrame m #[.ref a, .ref b, .int (Int32.ofNat o), .int (Int32.ofNat len), .null] 6)) (T15.setTop (mkF m 57 #[.val (.ref a), .val (.ref b), .val (.int (Int32.ofNat o)), .val (.int (Int32.ofNat len)), .val .null, .val (.ref s.heap.size)] [])) := c14.trans (st15 _ (Steps.refl _))
  have ap := apart (Or.inr ⟨_, (wk W (.laysFinal "java/lang/String" "java/lang/String" "value" "[B"))⟩) (Or.inr ⟨_, (wk W (.laysFinal "java/lang/String" "java/lang/String" "coder" "B"))⟩) f1 f2 (t₁ := .array .byte) (t₂ := .byte) (by decide +kernel) (by decide +kernel) (by decide)
  have al := X8.warmed.alike.symm.trans X15.warmed.alike
  have n7 : T11.heap[s.heap.size]? = some N := by rw [q11]; exact n1.1
  exact ⟨T15, none, _, _, _, X15, by simp, rfl, by omega, (fun _ => rfl), ⟨rfl, _, N, bl15, ((Same.refl D _).set _ (by simp)).set _ (by simp), sl15, (Cell.slots_setSlot_ne _ ap).trans sl13, n1.keep al (p15.other hne (p13.other hne n7)), n2, by rw [al.findClass]; exact n3, n4, n5, fun y c h1 h2 => p15.other h1 (p13.other h1 (by rw [q11]; exact n6 y c h2)), by rw [p15.2.2, p13.2.2, q11]; exact z8⟩, fun fs hl => c16.trans (X15.returnOut hexec hret (hb hbytes d57) hl)⟩
end New4
namespace New1
def yN : MethodName := ⟨"java/lang/String", "<init>", "([C)V"⟩
abbrev yB : ByteArray := jdk_42_method_3_code
theorem d0 : decode yB 0 = .ok (.aload_n 0, 1) := by decide +kernel
theorem d1 : decode yB 1 = .ok (.aload_n 1, 1) := by decide +kernel
theorem d2 : decode yB 2 = .ok (.iconst 0, 1) := by decide +kernel
theorem d3 : decode yB 3 = .ok (.aload_n 1, 1) := by decide +kernel
theorem d4 : decode yB 4 = .ok (.arraylength, 1) := by decide +kernel
theorem d5 : decode yB 5 = .ok (.aconst_null, 1) := by decide +kernel
theorem d6 : decode yB 6 = .ok (.invokespecial 27, 3) := by decide +kernel
theorem d9 : decode yB 9 = .ok (.return_, 1) := by decide +kernel
def site : List Cond := [New4.tab] ++ initW "java/lang/String" 27 New4.yN
def tab : Cond := tabOf yN yB 2 none site
def P (a : Addr) (D : Cell) (fV fC : Field) (b : Addr) (A : Cell) (z : Int32) (args : Array Value) (s : State) : Prop := args = #[.ref a, .ref b] ∧ Blank "java/lang/String" a D s ∧ Found "java/lang/String" "value" "[B" fV s ∧ Found "java/lang/String" "coder" "B" fC s ∧ Ch b A s ∧ StaticIs s "java/lang/String" "COMPACT_STRINGS" "Z" (.int z) ∧ ¬ z = 0 ∧ 0 < A.slots.size ∧ A.slots.size ≤ 536870912 ∧ ∀ i, i < A.slots.size → ¬ 255 < cv A i
def E (a : Addr) (D : Cell) (fV fC : Field) (A : Cell) (r : Option Value) (s u : State) : Prop := Got a D fV fC A 0 A.slots.size r s u
/-- new String(chars), not empty, no char above 255: a Latin-1 String of their low bytes -/
theorem law (l : Launch) (a : Addr) (D : Cell) (fV fC : Field) (b : Addr) (A : Cell) (z : Int32) : Law l yN 2 1 3 52 yB 2 none site (P a D fV fC b A z) (E a D fV fC A) [⟨a, fC.slot⟩, ⟨a, fV.slot⟩] 1 A.slots.size := by
  refine Law.of_walk (plainFor_of_name (by decide +kernel)) (by decide +kernel) (by decide +kernel) (by decide) (fun _ _ h => by rw [h.1]; rfl) (fun _ U U' hal hh h => ⟨h.1, h.2.1.mv hal hh, h.2.2.1.al hal, h.2.2.2.1.al hal, h.2.2.2.2.1.mv hal hh, h.2.2.2.2.2.1.there hal hh, h.2.2.2.2.2.2⟩) (fun r U U' V V' h1 hal h2 h => Got.mv r U U' V V' h1 hal h2 h) ?_
  intro p e s m args below meth c s₁ X0 hexec hbytes hml hret hlk hnm hown hh0 W hP
  obtain ⟨rfl, hB, f1, f2, hA, s1, hz, l0, l2, hp⟩ := hP
  have c1 : Steps p.tables e below (s₁.setTop (entryFrame m #[.ref a, .ref b] 2)) (s₁.setTop (mkF m 0 #[.val (.ref a), .val (.ref b)] [])) := entry rfl
  have c2 : Steps p.tables e below (s₁.setTop (entryFrame m #[.ref a, .ref b] 2)) (s₁.setTop (mkF m 6 #[.val (.ref a), .val (.ref b)] [.null, .int (Int32.ofNat A.slots.size), .int 0, .ref b, .ref a])) := c1.trans (by
    refine XS.aloadN X0.here hexec rfl (hb hbytes d0) rfl rfl ?_
    refine XS.aloadN X0.here hexec rfl (hb hbytes d1) rfl rfl ?_
    refine iconstV X0.here hexec rfl 0 (hb hbytes d2) (by decide) ?_
    refine XS.aloadN X0.here hexec rfl (hb hbytes d3) rfl rfl ?_
    refine X0.alen hexec (hA.1.mv X0.warmed.alike hh0) rfl rfl (hb hbytes d4) ?_
    refine XS.aconstNull X0.here hexec rfl (hb hbytes d5) ?_
    exact Steps.refl _)
  obtain ⟨v3, T3, X3, E3, g3⟩ := X0.callN hexec (New4.law l a D fV fC b A z 0 A.slots.size) rfl hown (wks W (initW "java/lang/String" 27 New4.yN)) (W New4.tab (by simp only [site, List.mem_cons, List.mem_append, true_or, or_true])) (W := 0) (Nat.le_of_ble_eq_true rfl) (Nat.le_of_ble_eq_true rfl) (Nat.le_refl _) (by show 0 + A.slots.size ≤ A.slots.size; omega) (g := (mkF m 6 #[.val (.ref a), .val (.ref b)] [.null, .int (Int32.ofNat A.slots.size), .int (Int32.ofNat 0), .ref b, .ref a])) rfl (by rw [hml]; rfl) c2 (argsL := [.ref b, .int (Int32.ofNat 0), .int (Int32.ofNat A.slots.size), .null]) (rest := []) rfl rfl (by show 2 * 0 + 0 ≤ _; decide) (hb hbytes d6) (⟨rfl, hB.mv X0.warmed.alike hh0, f1.al X0.warmed.alike, f2.al X0.warmed.alike, hA.mv X0.warmed.alike hh0, s1.there X0.warmed.alike hh0, hz, l0, by omega, l2, fun i hi => by rw [Nat.zero_add]; exact hp i hi⟩)
  have e0 := Got.mv _ s₁ s _ _ hh0.symm (Vm.Alike.refl _) rfl E3
  obtain rfl := e0.1
  have c4 : Steps p.tables e below (s₁.setTop (entryFrame m #[.ref a, .ref b] 2)) (T3.setTop (mkF m 9 #[.val (.ref a), .val (.ref b)] [])) := g3
  exact ⟨T3, none, _, _, _, X3, by simp, rfl, by omega, (fun _ => rfl), e0, fun fs hl => c4.trans (X3.returnOut hexec hret (hb hbytes d9) hl)⟩
theorem pays {l : Launch} {R : Room} {p : Program} {e : Env} {below : List Frame} {s : State} {sargs : Array Value} {len W : Nat} (a : Addr) (D : Cell) (fV fC : Field) (b : Addr) (A : Cell) (z : Int32) (htab : tab.before sargs s = true) (hfr : 4 ≤ R.frames) (hlo : W + 65 ≤ R.locals) :
    Back l R p e below s sargs yN len W (fun A₁ a₁ => A₁.cells + 1 ≤ R.cells ∧ A₁.slots + A.slots.size ≤ R.slots ∧ P a D fV fC b A z a₁ A₁.U) (fun A₁ _ v₁ B₁ => E a D fV fC A v₁ A₁.U B₁.U ∧ B₁.locs = A₁.locs ++ [⟨a, fC.slot⟩, ⟨a, fV.slot⟩] ∧ B₁.cells = A₁.cells + 1 ∧ B₁.slots = A₁.slots + A.slots.size) :=
  (law l a D fV fC b A z).pays htab hfr (by omega)
end New1
end StrChars
namespace StrChars.Road
open Jvm Sem ClassFile Op Lib Jvm.Stand Jvm.Free Jvm.Free.XT
open Jvm.Lib.Cold (StaticIs)
abbrev ST : String := "java/lang/String"
/-- every table word that New1's law asks, flat -/
abbrev words : List Jvm.Cond := [.code New1.yN New1.yB 2 none, .initialized ST, .methodLink ST 27 New4.yN, .instanceMethod New4.yN,
  .code New4.yN New4.yB 6 none, .fieldLink ST 38 ST "COMPACT_STRINGS" "Z", .laysFinal ST ST "value" "[B", .fieldLink ST 9 ST "value" "[B", .laysFinal ST ST "coder" "B", .fieldLink ST 15 ST "coder" "B",
  .methodLink ST 1 Lib.objectInit, .instanceMethod Lib.objectInit, .code Lib.objectInit ⟨#[0xb1]⟩ 1 none, .methodLink ST 177 Cmp3.yN, .static Cmp3.yN, .methodLink ST 47 CodL.yN, .static CodL.yN,
  .code Cmp3.yN Cmp3.yB 6 (some (.array .byte)), .initialized U16, .arrayClass .byte, .methodLink U16 115 Cmp5.yN, .static Cmp5.yN, .code Cmp5.yN Cmp5.yB 7 (some .int), .code CodL.yN CodL.yB 2 (some .byte)]
theorem tab_of {a : Array Value} {s : State} (h : ∀ w ∈ words, w.before a s = true) : New1.tab.before a s = true := by
  have h5 : Cmp5.tab.before a s = true := unparts (wk h (.code Cmp5.yN Cmp5.yB 7 (some .int))) (wks h (.initialized Cmp5.yN.cls :: Cmp5.site))
  have hc : CodL.tab.before a s = true := unparts (wk h (.code CodL.yN CodL.yB 2 (some .byte))) (wks h (.initialized CodL.yN.cls :: CodL.site))
  have q5 : ∀ w ∈ Cmp5.tab :: words, w.before a s = true := fun w hw => (List.mem_cons.mp hw).elim (fun e => e ▸ h5) (h w)
  have h3 : Cmp3.tab.before a s = true := unparts (wk q5 (.code Cmp3.yN Cmp3.yB 6 (some (.array .byte)))) (wks q5 (.initialized Cmp3.yN.cls :: Cmp3.site))
  have q3 : ∀ w ∈ Cmp3.tab :: CodL.tab :: words, w.before a s = true := fun w hw => (List.mem_cons.mp hw).elim (fun e => e ▸ h3) fun hw => (List.mem_cons.mp hw).elim (fun e => e ▸ hc) (h w)
  have h4 : New4.tab.before a s = true := unparts (wk q3 (.code New4.yN New4.yB 6 none)) (wks q3 (.initialized New4.yN.cls :: New4.site))
  have q4 : ∀ w ∈ New4.tab :: words, w.before a s = true := fun w hw => (List.mem_cons.mp hw).elim (fun e => e ▸ h4) (h w)
  exact unparts (wk q4 (.code New1.yN New1.yB 2 none)) (wks q4 (.initialized New1.yN.cls :: New1.site))
/-- the words ride from the start Z to the walk's own state -/
theorem moved {Z s : State} {a0 args : Array Value} (hZ : Z.Warmed39 s.vm) (hw : ∀ d ∈ words, d.before a0 Z = true) : ∀ d ∈ words, d.before args s = true := fun d hd => by
  have q := hw d hd
  have t : ∀ d ∈ words, d = .arrayClass .byte ∨ (d.onTables && d.keepsFace) = true := by decide +kernel
  rcases t d hd with rfl | t
  · exact RoadKit.mvA hZ q
  · exact RoadKit.mv hZ q t
/-- WHAT COMES BACK, over the tables of the start Z: h the heap at the call, h' behind it -/
def Q (Z : State) (x : Addr) (A : Cell) (h : Heap) (v : Option Value) (h' : Heap) (L : List Loc) : Prop := v = none ∧ (∀ y ∈ L, y.base = x) ∧ RoadKit.Keep h h' [x] ∧ h'.size = h.size + 1 ∧ RoadKit.Exa Z h' x ST ∧ RoadKit.Fld Z h' x ST "value" "[B" (.ref h.size) ∧ RoadKit.Fld Z h' x ST "coder" "B" (.int 0) ∧
  (∃ V : Cell, RoadKit.Arr Z h' h.size V .byte ∧ V.vm = .none ∧ Z.vm.findClass "[B" = some V.cls ∧ V.slots.size = A.slots.size ∧ ∀ j, j < A.slots.size → V.slots[j]? = some (.int (lo8 (cv A j)))) ∧
  ∀ (O n d : String) (w : Value), RoadKit.Fld Z h x O n d w → RoadKit.slotOf Z O n d ≠ RoadKit.slotOf Z ST "value" "[B" → RoadKit.slotOf Z O n d ≠ RoadKit.slotOf Z ST "coder" "B" → RoadKit.Fld Z h' x O n d w
/-- **new String(chars) AT A CALL, IN THE ROAD'S FORM**: for specialBack behind newO: x the fresh String, b the char[] with the cell A -/
theorem back {p : Program} {l : Launch} {e : Env} {R : Room} {s : State} {args : Array Value} {below : List Frame} {len W : Nat} {Z : State} {a0 : Array Value} {h : Heap} (hZ : Z.Warmed39 s.vm) (hw : ∀ d ∈ words, d.before a0 Z = true) {kI : Nat} (wi : (Jvm.Cond.instantiable ST kI).before a0 Z = true)
    {x b : Addr} {A : Cell} {z : Int32} {v0 c0 : Value} (E : RoadKit.Exa Z h x ST) (V : RoadKit.Fld Z h x ST "value" "[B" v0) (C : RoadKit.Fld Z h x ST "coder" "B" c0) (K : RoadKit.Arr Z h b A .char) (hty : Typed .char A) (S : RoadKit.Sta Z h ST "COMPACT_STRINGS" "Z" (.int z)) (hz : ¬ z = 0)
    (l0 : 0 < A.slots.size) (l2 : A.slots.size ≤ 536870912) (hp : ∀ i, i < A.slots.size → ¬ 255 < cv A i) (hfr : 4 ≤ R.frames) (hlo : W + 65 ≤ R.locals) :
    Back l R p e below s args New1.yN len W (fun P a => a = #[.ref x, .ref b] ∧ P.U.heap = h ∧ P.cells + 1 ≤ R.cells ∧ P.slots + A.slots.size ≤ R.slots)
      (fun P _ v B => ∃ L, Q Z x A h v B.U.heap L ∧ B.locs = P.locs ++ L ∧ B.cells = P.cells + 1 ∧ B.slots = P.slots + A.slots.size) := by
  intro m meth c P g ig mk a X hg hsize hdg hW hn hp'
  obtain ⟨rfl, rfl, r1, r2⟩ := hp'
  have al : Z.vm.Alike P.U.vm := hZ.alike.trans X.warmed.alike
  obtain ⟨D, cfV, kV, iV, fV, hD, gV, stV, knV, obV, asV, slV⟩ := id V
  obtain ⟨D', cfC, kC, iC, fC, hD', gC, stC, -, -, asC, slC⟩ := id C
  cases hD.symm.trans hD'
  obtain ⟨D2, kD, e1, e2, e3, e4, e5⟩ := id E
  cases hD.symm.trans e1
  obtain ⟨c2, k2, i1, i2, i3, -⟩ := Cond.instantiable_spec wi
  cases e2.symm.trans i1
  cases e3.symm.trans i2
  obtain ⟨kU, u1, u2⟩ := al.2.2 _ _ e3
  have hB : Blank ST x D P.U := ⟨hD, ⟨knV, fun q hq => by rw [hq] at obV; cases obV⟩, by rw [al.findClass]; exact e2, kU, u1, by rw [u2]; exact i3, by rw [u2]; exact e5 i3⟩
  have F1 : Found ST "value" "[B" fV P.U := ⟨SBG.found_only al ⟨cfV, kV, iV, gV⟩, stV⟩
  have F2 : Found ST "coder" "B" fC P.U := ⟨SBG.found_only al ⟨cfC, kC, iC, gC⟩, stC⟩
  have hA : Ch b A P.U := ⟨⟨K.1, State.isArrayOf_alike al K.2.1, K.2.2, by omega⟩, hty⟩
  have hS : StaticIs P.U ST "COMPACT_STRINGS" "Z" (.int z) := by
    obtain ⟨cfS, iS, kS, fS, st, cS, t1, t2, t3, t4, t5, t6, t7⟩ := S
    exact StaticIs.there (s := { Z with heap := P.U.heap }) ⟨cfS, iS, kS, fS, st, cS, t1, t2, t3, t4, t5, (fun q => by rw [q] at t6; cases t6), t7⟩ al rfl
  obtain ⟨v, B, X', ⟨⟨hv, E', V', q1, q2, q3, q4, q5, q6, q7, q8, q9, q10, q11⟩, hl, hc, hs⟩, st⟩ := New1.pays x D fV fC b A z (tab_of (moved hZ hw)) hfr hlo m meth c P g ig mk _ X hg hsize hdg hW hn ⟨r1, r2, rfl, hB, F1, F2, hA, hS, hz, l0, l2, hp⟩
  have al' : Z.vm.Alike B.U.vm := hZ.alike.trans X'.warmed.alike
  have hsz : E'.slots.size = D.slots.size := by
    obtain ⟨-, -, -, kB, w1, w2, w3⟩ := q1
    obtain ⟨kB', y1, y2⟩ := al'.2.2 _ _ e3
    rw [q2.2.1] at w1
    cases w1.symm.trans y1
    rw [w3, e5 i3, y2]
  refine ⟨v, B, X', ⟨_, ⟨hv, ?_, ⟨by omega, fun y cy hy hn' => q10 y cy (by simpa using hn') hy, fun y cy hy => ?_⟩, q11, ⟨E', _, q1.1, by rw [q2.2.1]; exact e2, by rw [q2.2.1]; exact e3, by rw [q2.1]; exact obV, fun _ => by rw [hsz]; exact e5 i3⟩,
    ⟨E', cfV, kV, iV, fV, q1.1, gV, stV, by rw [q2.1]; exact knV, by rw [q2.1]; exact obV, by rw [q2.2.1]; exact asV, q3⟩, ⟨E', cfC, kC, iC, fC, q1.1, gC, stC, by rw [q2.1]; exact knV, by rw [q2.1]; exact obV, by rw [q2.2.1]; exact asC, q4⟩,
    ⟨V', ⟨q5.1, State.isArrayOf_alike al'.symm q5.2.1, q5.2.2.1⟩, q6, by rw [← al'.findClass]; exact q7, q8, fun j hj => by have := q9 j hj; rwa [Nat.zero_add] at this⟩, fun O n d w F n1 n2 => ?_⟩, hl, hc, hs⟩, st⟩
  · intro y hy
    simp only [List.mem_cons, List.not_mem_nil, or_false] at hy
    rcases hy with rfl | rfl <;> rfl
  · by_cases q : y = x
    · subst q
      cases hD.symm.trans hy
      exact ⟨E', q1.1, q2.2.1, q2.1, hsz⟩
    · exact ⟨cy, q10 y cy q hy, rfl, rfl, rfl⟩
  · obtain ⟨D3, cf, k, i, f, g1, g2, g3, g4, g5, g6, g7⟩ := F
    cases hD.symm.trans g1
    simp only [RoadKit.slotOf, g2, gV, gC, Option.map_some, Option.getD_some] at n1 n2
    exact ⟨E', cf, k, i, f, q1.1, g2, g3, by rw [q2.1]; exact g4, by rw [q2.1]; exact g5, by rw [q2.2.1]; exact g6, by rw [q2.2.2 f.slot (by simp [n1, n2])]; exact g7⟩
end StrChars.Road
namespace StrChars.Road
open Jvm Sem ClassFile Op Lib Jvm.Stand Jvm.Free Jvm.Free.XT
/-- WHAT COMES BACK, the byte[] as a list of values -/
def QA (Z : State) (x : Addr) (zn : Int32) (cs : List Int32) (h : Heap) (v : Option Value) (h' : Heap) (L : List Loc) : Prop := v = none ∧ (∀ y ∈ L, y.base = x) ∧ RoadKit.Keep h h' [x] ∧ h'.size = h.size + 1 ∧ RoadKit.Exa Z h' x ST ∧ RoadKit.Fld Z h' x ST "value" "[B" (.ref h.size) ∧ RoadKit.Fld Z h' x ST "coder" "B" (.int 0) ∧
  (∃ kb, Z.vm.findClass "[B" = some kb ∧ RoadKit.Arv Z h' h.size kb .byte zn (cs.map fun c => .int (lo8 c)) (.int 0)) ∧
  ∀ (O n d : String) (w : Value), RoadKit.Fld Z h x O n d w → RoadKit.slotOf Z O n d ≠ RoadKit.slotOf Z ST "value" "[B" → RoadKit.slotOf Z O n d ≠ RoadKit.slotOf Z ST "coder" "B" → RoadKit.Fld Z h' x O n d w
/-- **new String(chars) AT A CALL, THE ARRAYS AS LISTS**: the char[] at b holds cs, not empty, no char above 255 -/
theorem backArv {p : Program} {l : Launch} {e : Env} {R : Room} {s : State} {args : Array Value} {below : List Frame} {len W : Nat} {Z : State} {a0 : Array Value} {h : Heap} (hZ : Z.Warmed39 s.vm) (hw : ∀ d ∈ words, d.before a0 Z = true) {kI : Nat} (wi : (Jvm.Cond.instantiable ST kI).before a0 Z = true)
    {x b : Addr} {k : ClassId} {zn z : Int32} {cs : List Int32} {dv v0 c0 : Value} (E : RoadKit.Exa Z h x ST) (V : RoadKit.Fld Z h x ST "value" "[B" v0) (C : RoadKit.Fld Z h x ST "coder" "B" c0) (K : RoadKit.Arv Z h b k .char zn (cs.map Value.int) dv) (S : RoadKit.Sta Z h ST "COMPACT_STRINGS" "Z" (.int z)) (hz : ¬ z = 0)
    (hlen : zn.toNatClampNeg = cs.length) (h0 : 0 < cs.length) (hbig : cs.length ≤ 536870912) (hall : ∀ c ∈ cs, ¬ 255 < c) (hfr : 4 ≤ R.frames) (hlo : W + 65 ≤ R.locals) :
    Back l R p e below s args New1.yN len W (fun P a => a = #[.ref x, .ref b] ∧ P.U.heap = h ∧ P.cells + 1 ≤ R.cells ∧ P.slots + cs.length ≤ R.slots)
      (fun P _ v B => ∃ L, QA Z x zn cs h v B.U.heap L ∧ B.locs = P.locs ++ L ∧ B.cells = P.cells + 1 ∧ B.slots = P.slots + cs.length) := by
  obtain ⟨A, K1, K2, K3, K4, K5, K6⟩ := K
  have e : A.slots.size = cs.length := K3.trans hlen
  have hat : ∀ (i : Nat) (hi : i < cs.length), A.slots[i]? = some (.int cs[i]) := fun i hi => by rw [K5 i (by omega)]; simp [List.getD_eq_getElem?_getD, hi]
  have hcv : ∀ (i : Nat) (hi : i < cs.length), cv A i = cs[i] := fun i hi => by unfold cv; rw [hat i hi]
  have hty : Typed .char A := fun i v hv => by
    have hi : i < A.slots.size := (Array.getElem?_eq_some_iff.mp hv).1
    have q := K5 i hi
    rw [hv] at q
    rw [Option.some.inj q]
    exact K6 i hi
  refine Back.mono (back hZ hw wi E V C K1 hty S hz (by omega) (by omega) (fun i hi => by rw [hcv i (by omega)]; exact hall _ (List.getElem_mem _)) hfr hlo) (fun P a hp => ⟨hp.1, hp.2.1, hp.2.2.1, by rw [e]; exact hp.2.2.2⟩) (fun P a v B hp hq => ?_)
  obtain ⟨L, ⟨q1, q2, q3, q4, q5, q6, q7, ⟨V', v1, v2, v3, v4, v5⟩, q9⟩, hl, hc, hs⟩ := hq
  refine ⟨L, ⟨q1, q2, q3, q4, q5, q6, q7, ⟨V'.cls, v3, V', v1, rfl, by rw [v4, e, hlen], K4, fun i hi => ?_, fun i hi => ?_⟩, q9⟩, hl, hc, by rw [hs, e]⟩
  · have hi' : i < cs.length := by omega
    rw [v5 i (by omega), hcv i hi']; simp [List.getD_eq_getElem?_getD, hi']
  · have hi' : i < cs.length := by omega
    simp only [List.getD_eq_getElem?_getD, List.getElem?_map, List.getElem?_eq_getElem hi', Option.map_some, Option.getD_some]
    exact fits_lo8 _
end StrChars.Road
namespace StrChars.Road
open Jvm Sem ClassFile Op Lib Jvm.Stand Jvm.Free Jvm.Free.XT
/-- WHAT COMES BACK, in the writer's own shape -/
def QV (Z : State) (x : Addr) (N : Int32) (bs : List Int32) (h : Heap) (n0 : Nat) (v : Option Value) (h' : Heap) (L : List Loc) : Prop := v = none ∧ RoadKit.Fr n0 L ∧ RoadKit.Keep h h' [x] ∧ RoadKit.Exa Z h' x ST ∧ RoadKit.Fld Z h' x ST "coder" "B" (.int 0) ∧
  ∃ (t : Addr) (kb : ClassId), n0 ≤ t ∧ h.size ≤ t ∧ ¬ t = x ∧ RoadKit.Fld Z h' x ST "value" "[B" (.ref t) ∧ RoadKit.Arv Z h' t kb .byte N (bs.map Value.int) (.int 0)
/-- **new String(chars) AT A CALL, FOR THE WRITER**: a char[] of n known ints, each 0 to 255 -/
theorem backV {p : Program} {l : Launch} {e : Env} {R : Room} {s : State} {args : Array Value} {below : List Frame} {len W : Nat} {Z : State} {a0 : Array Value} {h : Heap} (hZ : Z.Warmed39 s.vm) (hw : ∀ d ∈ words, d.before a0 Z = true) {kI : Nat} (wi : (Jvm.Cond.instantiable ST kI).before a0 Z = true)
    {x b : Addr} {kC : ClassId} {cs bs : List Int32} {d v0 c0 : Value} {z N : Int32} {n n0 : Nat} (hx0 : n0 ≤ x) (hh0 : n0 ≤ h.size) (E : RoadKit.Exa Z h x ST) (V : RoadKit.Fld Z h x ST "value" "[B" v0) (C : RoadKit.Fld Z h x ST "coder" "B" c0) (K : RoadKit.Arv Z h b kC .char N (cs.map Value.int) d) (S : RoadKit.Sta Z h ST "COMPACT_STRINGS" "Z" (.int z)) (hz : ¬ z = 0)
    (hn : cs.length = n) (hN : N = Int32.ofNat n) (l0 : 0 < n) (l2 : n ≤ 4000) (hp : ∀ c ∈ cs, ¬ c < 0 ∧ ¬ (255 : Int32) < c) (hb : bs = cs.map (fun c => c.toInt8.toInt32)) (hfr : 4 ≤ R.frames) (hlo : W + 65 ≤ R.locals) :
    Back l R p e below s args (⟨"java/lang/String", "<init>", "([C)V"⟩ : MethodName) len W (fun P a => a = #[.ref x, .ref b] ∧ P.U.heap = h ∧ P.cells + 1 ≤ R.cells ∧ P.slots + n ≤ R.slots)
      (fun P _ v B => ∃ L, QV Z x N bs h n0 v B.U.heap L ∧ B.locs = P.locs ++ L ∧ B.cells = P.cells + 1 ∧ B.slots = P.slots + n) := by
  subst hn hN hb
  refine Back.mono (backArv hZ hw wi E V C K S hz (n32 (by omega)) l0 (by omega) (fun c hc => (hp c hc).2) hfr hlo) (fun P a hp => hp) (fun P a v B hp hq => ?_)
  obtain ⟨L, ⟨q1, q2, q3, q4, q5, q6, q7, ⟨kb, v1, v2⟩, q9⟩, hl, hc, hs⟩ := hq
  exact ⟨L, ⟨q1, fun y hy => by rw [q2 y hy]; exact hx0, q3, q5, q7, h.size, kb, hh0, Nat.le_refl _, Nat.ne_of_gt E.lt, q6, by rw [List.map_map]; exact v2⟩, hl, hc, hs⟩
end StrChars.Road
end Jvm.Pilot.@@N@@

namespace Jvm.RoadKit
open Sem ClassFile Op Lib Jvm.Stand Jvm.Free Jvm.LawKit
section New
variable {p : Program} {l : Launch} {e : Env} {R : Room} {s : State} {m : MethodId} {args : Array Value} {below : List Frame} {meth : Method} {c : Code} {T : State} {locs : List Loc} {cells slots : Nat}
theorem retI (X : Stand p l e R s m args below meth c T locs cells slots) (hx : p.tables.exec = Jvm.exec) {pc : Nat} {Ls : Array Slot} {z : Int32} {rest : List Value} (hret : meth.sig.returnType = some .int) (hd : decode c.code pc = .ok (.ireturn, 1)) {fs : List Frame}
    (hl : ∀ (f : JFrame) (acts : List Action), f.method = m → f.locked = none → f.entered = [] → (doReturn e (T.setTop f) acts (some (.int z))).1 = T.setFrames fs) : Steps p.tables e below (T.setTop (mkF m pc Ls (.int z :: rest))) (T.setFrames fs) := by
  have hm' : T.vm.method? m = some meth := X.method'
  have hn : narrow .int (.int z) = .int z := rfl
  show Steps p.tables e below (T.setTop { method := m, pc := pc, locals := Ls, stack := _ :: rest, locked := none }) _
  jvm_step X.here [X.here.top, hx, hd, hm', hret, hn]
  first | (intro acts; rw [hl _ acts rfl rfl rfl]) | rw [hl _ _ rfl rfl rfl]
  exact Steps.refl _
end New
end Jvm.RoadKit
namespace Jvm.Pilot.@@N@@
open Jvm Jvm.ClassFile Sem Op Lib Jvm.Free Jvm.Stand Jvm.LawKit Jvm.RoadKit Bundle Jvm.Pilot.@@N@@.Jvm.D
/-! ## Go: a walk as a proposition, read backwards -/
def Cx (p : Program) (s : State) (m : MethodId) (meth : Method) (c : Code) (Z : State) (own nm : String) (code : ByteArray) (ml : Nat) (ret : Option FieldType) : Prop :=
  p.tables.exec = Jvm.exec ∧ c.code = code ∧ c.maxLocals = ml ∧ s.vm.findClass own = some m.cls ∧ Z.Warmed39 s.vm ∧ meth.name = nm ∧ meth.sig.returnType = ret ∧ meth.locks = false
def Go (p : Program) (l : Launch) (e : Env) (R : Room) (s : State) (m : MethodId) (args : Array Value) (below : List Frame) (meth : Method) (c : Code) (Ph : State → Option Value → Prop) (n0 : Nat) (h : Heap) (k n : Nat) (pc : Nat) (Ls : Array Slot) (st : List Value) : Prop :=
  ∀ T locs, Stand p l e R s m args below meth c T locs k n → Fr n0 locs → T.heap = h → ∃ s₂ v, Steps p.tables e below (T.setTop (mkF m pc Ls st)) s₂ ∧ Ph s₂ v
section GoRules
variable {p : Program} {l : Launch} {e : Env} {R : Room} {s : State} {m : MethodId} {args : Array Value} {below : List Frame} {meth : Method} {c : Code} {Ph : State → Option Value → Prop} {n0 : Nat} {h : Heap} {k n : Nat} {pc q : Nat} {Ls : Array Slot} {st rest : List Value} {Z : State} {a0 : Array Value} {own nm : String} {code : ByteArray} {ml : Nat} {ret : Option FieldType}
theorem Go.pl {pc' : Nat} {Ls' : Array Slot} {st' : List Value} (H : ∀ (T target : State), At T m c below → Steps p.tables e below (T.setTop (mkF m pc' Ls' st')) target → Steps p.tables e below (T.setTop (mkF m pc Ls st)) target) (K : Go p l e R s m args below meth c Ph n0 h k n pc' Ls' st') : Go p l e R s m args below meth c Ph n0 h k n pc Ls st :=
  fun T locs X N eT => by obtain ⟨s₂, v, S, r⟩ := K T locs X N eT; exact ⟨s₂, v, H T s₂ X.here S, r⟩
theorem Go.more {k' n' : Nat} (hk : k ≤ k') (hn : n ≤ n') (K : Go p l e R s m args below meth c Ph n0 h k' n' pc Ls st) : Go p l e R s m args below meth c Ph n0 h k n pc Ls st := fun T locs X N eT => K T locs (X.loosen hk hn) N eT
theorem Go.low {n1 : Nat} (hn : n0 ≤ n1) (K : Go p l e R s m args below meth c Ph n0 h k n pc Ls st) : Go p l e R s m args below meth c Ph n1 h k n pc Ls st := fun T locs X N eT => K T locs X (fun y hy => Nat.le_trans hn (N y hy)) eT
theorem Go.join {pc' : Nat} {Ls' : Array Slot} {st' : List Value} (J : Go p l e R s m args below meth c Ph n0 h k n pc' Ls' st') (K : Go p l e R s m args below meth c Ph n0 h k n pc' Ls' st' → Go p l e R s m args below meth c Ph n0 h k n pc Ls st) : Go p l e R s m args below meth c Ph n0 h k n pc Ls st := K J
theorem Go.joinR {α : Sort _} {pc' : Nat} (P' : α → Prop) (Ls' : α → Array Slot) (st' : α → List Value) (J : ∀ r, P' r → Go p l e R s m args below meth c Ph n0 h k n pc' (Ls' r) (st' r)) (K : (∀ r, P' r → Go p l e R s m args below meth c Ph n0 h k n pc' (Ls' r) (st' r)) → Go p l e R s m args below meth c Ph n0 h k n pc Ls st) : Go p l e R s m args below meth c Ph n0 h k n pc Ls st := K J
theorem Go.cast {pc' : Nat} {Ls' : Array Slot} {st' : List Value} (e1 : pc' = pc) (e2 : Ls' = Ls) (e3 : st' = st) (K : Go p l e R s m args below meth c Ph n0 h k n pc' Ls' st') : Go p l e R s m args below meth c Ph n0 h k n pc Ls st := by subst e1 e2 e3; exact K
theorem g_iloadN (C : Cx p s m meth c Z own nm code ml ret) {i : Fin 4} {v : Int32} (d : decode code pc = .ok (.iload_n i, 1)) (hl : Ls[i.val]? = some (.val (.int v))) (hq : pc + 1 = q) (K : Go p l e R s m args below meth c Ph n0 h k n q Ls (.int v :: st)) : Go p l e R s m args below meth c Ph n0 h k n pc Ls (st) :=
  Go.pl (fun T t A S => XS.iloadN A C.1 rfl (hb C.2.1 d) hl (by subst hq; exact S)) K
theorem g_iload (C : Cx p s m meth c Z own nm code ml ret) {i : Nat} {v : Int32} (d : decode code pc = .ok (.iload i, 2)) (hl : Ls[i]? = some (.val (.int v))) (hq : pc + 2 = q) (K : Go p l e R s m args below meth c Ph n0 h k n q Ls (.int v :: st)) : Go p l e R s m args below meth c Ph n0 h k n pc Ls (st) :=
  Go.pl (fun T t A S => XS.iload A C.1 rfl (hb C.2.1 d) hl (by subst hq; exact S)) K
theorem g_istoreN (C : Cx p s m meth c Z own nm code ml ret) {i : Fin 4} {v : Int32} {L' : Array Slot} (d : decode code pc = .ok (.istore_n i, 1))  (hl : storeLocals Ls i.val (.int v) = some L') (hq : pc + 1 = q) (K : Go p l e R s m args below meth c Ph n0 h k n q L' (st)) : Go p l e R s m args below meth c Ph n0 h k n pc Ls (.int v :: st) :=
  Go.pl (fun T t A S => XS.istoreN A C.1 rfl (hb C.2.1 d) rfl hl (by subst hq; exact S)) K
theorem g_istore (C : Cx p s m meth c Z own nm code ml ret) {i : Nat} {v : Int32} {L' : Array Slot} (d : decode code pc = .ok (.istore i, 2))  (hl : storeLocals Ls i (.int v) = some L') (hq : pc + 2 = q) (K : Go p l e R s m args below meth c Ph n0 h k n q L' (st)) : Go p l e R s m args below meth c Ph n0 h k n pc Ls (.int v :: st) :=
  Go.pl (fun T t A S => XS.istore A C.1 rfl (hb C.2.1 d) rfl hl (by subst hq; exact S)) K
theorem g_lloadN (C : Cx p s m meth c Z own nm code ml ret) {i : Fin 4} {v : Int64} (d : decode code pc = .ok (.lload_n i, 1)) (hl : Ls[i.val]? = some (.val (.long v))) (hq : pc + 1 = q) (K : Go p l e R s m args below meth c Ph n0 h k n q Ls (.long v :: st)) : Go p l e R s m args below meth c Ph n0 h k n pc Ls (st) :=
  Go.pl (fun T t A S => XT.lloadN A C.1 rfl (hb C.2.1 d) hl (by subst hq; exact S)) K
theorem g_lload (C : Cx p s m meth c Z own nm code ml ret) {i : Nat} {v : Int64} (d : decode code pc = .ok (.lload i, 2)) (hl : Ls[i]? = some (.val (.long v))) (hq : pc + 2 = q) (K : Go p l e R s m args below meth c Ph n0 h k n q Ls (.long v :: st)) : Go p l e R s m args below meth c Ph n0 h k n pc Ls (st) :=
  Go.pl (fun T t A S => XT.lload A C.1 rfl (hb C.2.1 d) hl (by subst hq; exact S)) K
theorem g_lstoreN (C : Cx p s m meth c Z own nm code ml ret) {i : Fin 4} {v : Int64} {L' : Array Slot} (d : decode code pc = .ok (.lstore_n i, 1))  (hl : storeLocals Ls i.val (.long v) = some L') (hq : pc + 1 = q) (K : Go p l e R s m args below meth c Ph n0 h k n q L' (st)) : Go p l e R s m args below meth c Ph n0 h k n pc Ls (.long v :: st) :=
  Go.pl (fun T t A S => XT.lstoreN A C.1 rfl (hb C.2.1 d) rfl hl (by subst hq; exact S)) K
theorem g_lstore (C : Cx p s m meth c Z own nm code ml ret) {i : Nat} {v : Int64} {L' : Array Slot} (d : decode code pc = .ok (.lstore i, 2))  (hl : storeLocals Ls i (.long v) = some L') (hq : pc + 2 = q) (K : Go p l e R s m args below meth c Ph n0 h k n q L' (st)) : Go p l e R s m args below meth c Ph n0 h k n pc Ls (.long v :: st) :=
  Go.pl (fun T t A S => XT.lstore A C.1 rfl (hb C.2.1 d) rfl hl (by subst hq; exact S)) K
theorem g_aloadN (C : Cx p s m meth c Z own nm code ml ret) {i : Fin 4} {v : Value} (d : decode code pc = .ok (.aload_n i, 1)) (hl : Ls[i.val]? = some (.val v)) (hv : v.isRef = true) (hq : pc + 1 = q) (K : Go p l e R s m args below meth c Ph n0 h k n q Ls (v :: st)) : Go p l e R s m args below meth c Ph n0 h k n pc Ls (st) :=
  Go.pl (fun T t A S => XS.aloadN A C.1 rfl (hb C.2.1 d) hl hv (by subst hq; exact S)) K
theorem g_aload (C : Cx p s m meth c Z own nm code ml ret) {i : Nat} {v : Value} (d : decode code pc = .ok (.aload i, 2)) (hl : Ls[i]? = some (.val v)) (hv : v.isRef = true) (hq : pc + 2 = q) (K : Go p l e R s m args below meth c Ph n0 h k n q Ls (v :: st)) : Go p l e R s m args below meth c Ph n0 h k n pc Ls (st) :=
  Go.pl (fun T t A S => XS.aload A C.1 rfl (hb C.2.1 d) hl hv (by subst hq; exact S)) K
theorem g_astoreN (C : Cx p s m meth c Z own nm code ml ret) {i : Fin 4} {v : Value} {L' : Array Slot} (d : decode code pc = .ok (.astore_n i, 1))  (hv : v.isRef = true) (hl : storeLocals Ls i.val (v) = some L') (hq : pc + 1 = q) (K : Go p l e R s m args below meth c Ph n0 h k n q L' (st)) : Go p l e R s m args below meth c Ph n0 h k n pc Ls (v :: st) :=
  Go.pl (fun T t A S => XS.astoreN A C.1 rfl (hb C.2.1 d) rfl hv hl (by subst hq; exact S)) K
theorem g_astore (C : Cx p s m meth c Z own nm code ml ret) {i : Nat} {v : Value} {L' : Array Slot} (d : decode code pc = .ok (.astore i, 2))  (hv : v.isRef = true) (hl : storeLocals Ls i (v) = some L') (hq : pc + 2 = q) (K : Go p l e R s m args below meth c Ph n0 h k n q L' (st)) : Go p l e R s m args below meth c Ph n0 h k n pc Ls (v :: st) :=
  Go.pl (fun T t A S => XS.astore A C.1 rfl (hb C.2.1 d) rfl hv hl (by subst hq; exact S)) K
theorem g_iinc (C : Cx p s m meth c Z own nm code ml ret) {i : Nat} {cst : Int} {v : Int32} {L' : Array Slot} (d : decode code pc = .ok (.iinc i cst, 3)) (hl : Ls[i]? = some (.val (.int v))) (hl' : storeLocals Ls i (.int (v + Int32.ofInt cst)) = some L') (hq : pc + 3 = q) (K : Go p l e R s m args below meth c Ph n0 h k n q L' (st)) : Go p l e R s m args below meth c Ph n0 h k n pc Ls (st) :=
  Go.pl (fun T t A S => XS.iinc A C.1 rfl (hb C.2.1 d) hl hl' (by subst hq; exact S)) K
theorem g_iconst (C : Cx p s m meth c Z own nm code ml ret) {i : Int} {z : Int32} (d : decode code pc = .ok (.iconst i, 1)) (hz : Int32.ofInt i = z) (hq : pc + 1 = q) (K : Go p l e R s m args below meth c Ph n0 h k n q Ls (.int z :: st)) : Go p l e R s m args below meth c Ph n0 h k n pc Ls st :=
  Go.pl (fun T t A S => XS.iconst A C.1 rfl (hb C.2.1 d) (by subst hq hz; exact S)) K
theorem g_bipush (C : Cx p s m meth c Z own nm code ml ret) {i : Int} {z : Int32} (d : decode code pc = .ok (.bipush i, 2)) (hz : (Int8.ofInt i).toInt32 = z) (hq : pc + 2 = q) (K : Go p l e R s m args below meth c Ph n0 h k n q Ls (.int z :: st)) : Go p l e R s m args below meth c Ph n0 h k n pc Ls st :=
  Go.pl (fun T t A S => XS.bipush A C.1 rfl (hb C.2.1 d) (by subst hq hz; exact S)) K
theorem g_sipush (C : Cx p s m meth c Z own nm code ml ret) {i : Int} {z : Int32} (d : decode code pc = .ok (.sipush i, 3)) (hz : (Int16.ofInt i).toInt32 = z) (hq : pc + 3 = q) (K : Go p l e R s m args below meth c Ph n0 h k n q Ls (.int z :: st)) : Go p l e R s m args below meth c Ph n0 h k n pc Ls st :=
  Go.pl (fun T t A S => XS.sipush A C.1 rfl (hb C.2.1 d) (by subst hq hz; exact S)) K
theorem g_lconst (C : Cx p s m meth c Z own nm code ml ret) {i : Fin 2} {z : Int64} (d : decode code pc = .ok (.lconst i, 1)) (hz : Int64.ofNat i = z) (hq : pc + 1 = q) (K : Go p l e R s m args below meth c Ph n0 h k n q Ls (.long z :: st)) : Go p l e R s m args below meth c Ph n0 h k n pc Ls st :=
  Go.pl (fun T t A S => XT.lconst A C.1 rfl (hb C.2.1 d) (by subst hq hz; exact S)) K
theorem g_aconst_null (C : Cx p s m meth c Z own nm code ml ret)  (d : decode code pc = .ok (.aconst_null, 1))  (hq : pc + 1 = q) (K : Go p l e R s m args below meth c Ph n0 h k n q Ls (.null :: st)) : Go p l e R s m args below meth c Ph n0 h k n pc Ls (st) :=
  Go.pl (fun T t A S => XS.aconstNull A C.1 rfl (hb C.2.1 d)  (by subst hq; exact S)) K
theorem g_dup (C : Cx p s m meth c Z own nm code ml ret) {x : Value} (d : decode code pc = .ok (.dup, 1)) (hc : x.category = 1) (hq : pc + 1 = q) (K : Go p l e R s m args below meth c Ph n0 h k n q Ls (x :: x :: st)) : Go p l e R s m args below meth c Ph n0 h k n pc Ls (x :: st) :=
  Go.pl (fun T t A S => XS.dup A C.1 rfl (hb C.2.1 d) rfl hc (by subst hq; exact S)) K
theorem g_pop (C : Cx p s m meth c Z own nm code ml ret) {x : Value} (d : decode code pc = .ok (.pop, 1)) (hc : x.category = 1) (hq : pc + 1 = q) (K : Go p l e R s m args below meth c Ph n0 h k n q Ls (st)) : Go p l e R s m args below meth c Ph n0 h k n pc Ls (x :: st) :=
  Go.pl (fun T t A S => XT.pop A C.1 rfl (hb C.2.1 d) rfl hc (by subst hq; exact S)) K
theorem g_dup_x1 (C : Cx p s m meth c Z own nm code ml ret) {x y : Value} (d : decode code pc = .ok (.dup_x1, 1)) (hc : x.category = 1) (hc' : y.category = 1) (hq : pc + 1 = q) (K : Go p l e R s m args below meth c Ph n0 h k n q Ls (x :: y :: x :: st)) : Go p l e R s m args below meth c Ph n0 h k n pc Ls (x :: y :: st) :=
  Go.pl (fun T t A S => XT.dupX1 A C.1 rfl (hb C.2.1 d) rfl hc hc' (by subst hq; exact S)) K
theorem g_dup2 (C : Cx p s m meth c Z own nm code ml ret) {x y : Value} (d : decode code pc = .ok (.dup2, 1)) (hc : x.category = 1) (hc' : y.category = 1) (hq : pc + 1 = q) (K : Go p l e R s m args below meth c Ph n0 h k n q Ls (x :: y :: x :: y :: st)) : Go p l e R s m args below meth c Ph n0 h k n pc Ls (x :: y :: st) :=
  Go.pl (fun T t A S => XT.dup2 A C.1 rfl (hb C.2.1 d) rfl hc hc' (by subst hq; exact S)) K
theorem g_dup2L (C : Cx p s m meth c Z own nm code ml ret) {x : Int64} (d : decode code pc = .ok (.dup2, 1))  (hq : pc + 1 = q) (K : Go p l e R s m args below meth c Ph n0 h k n q Ls (.long x :: .long x :: st)) : Go p l e R s m args below meth c Ph n0 h k n pc Ls (.long x :: st) :=
  Go.pl (fun T t A S => XT.dup2L A C.1 rfl (hb C.2.1 d) rfl (by subst hq; exact S)) K
theorem g_iadd (C : Cx p s m meth c Z own nm code ml ret) {x y : Int32} (d : decode code pc = .ok (.iadd, 1))  (hq : pc + 1 = q) (K : Go p l e R s m args below meth c Ph n0 h k n q Ls (.int (x + y) :: st)) : Go p l e R s m args below meth c Ph n0 h k n pc Ls (.int y :: .int x :: st) :=
  Go.pl (fun T t A S => XS.iadd A C.1 rfl (hb C.2.1 d) rfl (by subst hq; exact S)) K
theorem g_isub (C : Cx p s m meth c Z own nm code ml ret) {x y : Int32} (d : decode code pc = .ok (.isub, 1))  (hq : pc + 1 = q) (K : Go p l e R s m args below meth c Ph n0 h k n q Ls (.int (x - y) :: st)) : Go p l e R s m args below meth c Ph n0 h k n pc Ls (.int y :: .int x :: st) :=
  Go.pl (fun T t A S => XS.isub A C.1 rfl (hb C.2.1 d) rfl (by subst hq; exact S)) K
theorem g_imul (C : Cx p s m meth c Z own nm code ml ret) {x y : Int32} (d : decode code pc = .ok (.imul, 1))  (hq : pc + 1 = q) (K : Go p l e R s m args below meth c Ph n0 h k n q Ls (.int (x * y) :: st)) : Go p l e R s m args below meth c Ph n0 h k n pc Ls (.int y :: .int x :: st) :=
  Go.pl (fun T t A S => XS.imul A C.1 rfl (hb C.2.1 d) rfl (by subst hq; exact S)) K
theorem g_iand (C : Cx p s m meth c Z own nm code ml ret) {x y : Int32} (d : decode code pc = .ok (.iand, 1))  (hq : pc + 1 = q) (K : Go p l e R s m args below meth c Ph n0 h k n q Ls (.int (x &&& y) :: st)) : Go p l e R s m args below meth c Ph n0 h k n pc Ls (.int y :: .int x :: st) :=
  Go.pl (fun T t A S => XS.iand A C.1 rfl (hb C.2.1 d) rfl (by subst hq; exact S)) K
theorem g_ior (C : Cx p s m meth c Z own nm code ml ret) {x y : Int32} (d : decode code pc = .ok (.ior, 1))  (hq : pc + 1 = q) (K : Go p l e R s m args below meth c Ph n0 h k n q Ls (.int (x ||| y) :: st)) : Go p l e R s m args below meth c Ph n0 h k n pc Ls (.int y :: .int x :: st) :=
  Go.pl (fun T t A S => XT.ior A C.1 rfl (hb C.2.1 d) rfl (by subst hq; exact S)) K
theorem g_ixor (C : Cx p s m meth c Z own nm code ml ret) {x y : Int32} (d : decode code pc = .ok (.ixor, 1))  (hq : pc + 1 = q) (K : Go p l e R s m args below meth c Ph n0 h k n q Ls (.int (x ^^^ y) :: st)) : Go p l e R s m args below meth c Ph n0 h k n pc Ls (.int y :: .int x :: st) :=
  Go.pl (fun T t A S => XT.ixor A C.1 rfl (hb C.2.1 d) rfl (by subst hq; exact S)) K
theorem g_ishl (C : Cx p s m meth c Z own nm code ml ret) {x y : Int32} (d : decode code pc = .ok (.ishl, 1))  (hq : pc + 1 = q) (K : Go p l e R s m args below meth c Ph n0 h k n q Ls (.int (x <<< (y &&& 31)) :: st)) : Go p l e R s m args below meth c Ph n0 h k n pc Ls (.int y :: .int x :: st) :=
  Go.pl (fun T t A S => XT.ishl A C.1 rfl (hb C.2.1 d) rfl (by subst hq; exact S)) K
theorem g_ishr (C : Cx p s m meth c Z own nm code ml ret) {x y : Int32} (d : decode code pc = .ok (.ishr, 1))  (hq : pc + 1 = q) (K : Go p l e R s m args below meth c Ph n0 h k n q Ls (.int (x >>> (y &&& 31)) :: st)) : Go p l e R s m args below meth c Ph n0 h k n pc Ls (.int y :: .int x :: st) :=
  Go.pl (fun T t A S => XT.ishr A C.1 rfl (hb C.2.1 d) rfl (by subst hq; exact S)) K
theorem g_iushr (C : Cx p s m meth c Z own nm code ml ret) {x y : Int32} (d : decode code pc = .ok (.iushr, 1))  (hq : pc + 1 = q) (K : Go p l e R s m args below meth c Ph n0 h k n q Ls (.int (XT.ushr x y) :: st)) : Go p l e R s m args below meth c Ph n0 h k n pc Ls (.int y :: .int x :: st) :=
  Go.pl (fun T t A S => XT.iushr A C.1 rfl (hb C.2.1 d) rfl (by subst hq; exact S)) K
theorem g_idiv (C : Cx p s m meth c Z own nm code ml ret) {x y : Int32} (d : decode code pc = .ok (.idiv, 1)) (hy : y ≠ 0) (hq : pc + 1 = q) (K : Go p l e R s m args below meth c Ph n0 h k n q Ls (.int (x / y) :: st)) : Go p l e R s m args below meth c Ph n0 h k n pc Ls (.int y :: .int x :: st) :=
  Go.pl (fun T t A S => XS.idiv A C.1 rfl (hb C.2.1 d) rfl hy (by subst hq; exact S)) K
theorem g_irem (C : Cx p s m meth c Z own nm code ml ret) {x y : Int32} (d : decode code pc = .ok (.irem, 1)) (hy : y ≠ 0) (hq : pc + 1 = q) (K : Go p l e R s m args below meth c Ph n0 h k n q Ls (.int (x % y) :: st)) : Go p l e R s m args below meth c Ph n0 h k n pc Ls (.int y :: .int x :: st) :=
  Go.pl (fun T t A S => XS.irem A C.1 rfl (hb C.2.1 d) rfl hy (by subst hq; rw [irem_eq_mod x y]; exact S)) K
theorem g_ineg (C : Cx p s m meth c Z own nm code ml ret) {x : Int32} (d : decode code pc = .ok (.ineg, 1))  (hq : pc + 1 = q) (K : Go p l e R s m args below meth c Ph n0 h k n q Ls (.int (-x) :: st)) : Go p l e R s m args below meth c Ph n0 h k n pc Ls (.int x :: st) :=
  Go.pl (fun T t A S => XS.ineg A C.1 rfl (hb C.2.1 d) rfl (by subst hq; exact S)) K
theorem g_ladd (C : Cx p s m meth c Z own nm code ml ret) {x y : Int64} (d : decode code pc = .ok (.ladd, 1))  (hq : pc + 1 = q) (K : Go p l e R s m args below meth c Ph n0 h k n q Ls (.long (x + y) :: st)) : Go p l e R s m args below meth c Ph n0 h k n pc Ls (.long y :: .long x :: st) :=
  Go.pl (fun T t A S => XT.ladd A C.1 rfl (hb C.2.1 d) rfl (by subst hq; exact S)) K
theorem g_lsub (C : Cx p s m meth c Z own nm code ml ret) {x y : Int64} (d : decode code pc = .ok (.lsub, 1))  (hq : pc + 1 = q) (K : Go p l e R s m args below meth c Ph n0 h k n q Ls (.long (x - y) :: st)) : Go p l e R s m args below meth c Ph n0 h k n pc Ls (.long y :: .long x :: st) :=
  Go.pl (fun T t A S => XT.lsub A C.1 rfl (hb C.2.1 d) rfl (by subst hq; exact S)) K
theorem g_lmul (C : Cx p s m meth c Z own nm code ml ret) {x y : Int64} (d : decode code pc = .ok (.lmul, 1))  (hq : pc + 1 = q) (K : Go p l e R s m args below meth c Ph n0 h k n q Ls (.long (x * y) :: st)) : Go p l e R s m args below meth c Ph n0 h k n pc Ls (.long y :: .long x :: st) :=
  Go.pl (fun T t A S => XT.lmul A C.1 rfl (hb C.2.1 d) rfl (by subst hq; exact S)) K
theorem g_land (C : Cx p s m meth c Z own nm code ml ret) {x y : Int64} (d : decode code pc = .ok (.land, 1))  (hq : pc + 1 = q) (K : Go p l e R s m args below meth c Ph n0 h k n q Ls (.long (x &&& y) :: st)) : Go p l e R s m args below meth c Ph n0 h k n pc Ls (.long y :: .long x :: st) :=
  Go.pl (fun T t A S => XT.land A C.1 rfl (hb C.2.1 d) rfl (by subst hq; exact S)) K
theorem g_lor (C : Cx p s m meth c Z own nm code ml ret) {x y : Int64} (d : decode code pc = .ok (.lor, 1))  (hq : pc + 1 = q) (K : Go p l e R s m args below meth c Ph n0 h k n q Ls (.long (x ||| y) :: st)) : Go p l e R s m args below meth c Ph n0 h k n pc Ls (.long y :: .long x :: st) :=
  Go.pl (fun T t A S => XT.lor A C.1 rfl (hb C.2.1 d) rfl (by subst hq; exact S)) K
theorem g_lxor (C : Cx p s m meth c Z own nm code ml ret) {x y : Int64} (d : decode code pc = .ok (.lxor, 1))  (hq : pc + 1 = q) (K : Go p l e R s m args below meth c Ph n0 h k n q Ls (.long (x ^^^ y) :: st)) : Go p l e R s m args below meth c Ph n0 h k n pc Ls (.long y :: .long x :: st) :=
  Go.pl (fun T t A S => XT.lxor A C.1 rfl (hb C.2.1 d) rfl (by subst hq; exact S)) K
theorem g_lushr (C : Cx p s m meth c Z own nm code ml ret) {x : Int64} {y : Int32} (d : decode code pc = .ok (.lushr, 1))  (hq : pc + 1 = q) (K : Go p l e R s m args below meth c Ph n0 h k n q Ls (.long (XT.ushrL x y) :: st)) : Go p l e R s m args below meth c Ph n0 h k n pc Ls (.int y :: .long x :: st) :=
  Go.pl (fun T t A S => XT.lushr A C.1 rfl (hb C.2.1 d) rfl (by subst hq; exact S)) K
theorem g_lcmp (C : Cx p s m meth c Z own nm code ml ret) {x y : Int64} (d : decode code pc = .ok (.lcmp, 1))  (hq : pc + 1 = q) (K : Go p l e R s m args below meth c Ph n0 h k n q Ls (.int (XT.cmpL x y) :: st)) : Go p l e R s m args below meth c Ph n0 h k n pc Ls (.long y :: .long x :: st) :=
  Go.pl (fun T t A S => XT.lcmp A C.1 rfl (hb C.2.1 d) rfl (by subst hq; exact S)) K
theorem g_i2l (C : Cx p s m meth c Z own nm code ml ret) {x : Int32} (d : decode code pc = .ok (.i2l, 1))  (hq : pc + 1 = q) (K : Go p l e R s m args below meth c Ph n0 h k n q Ls (.long (x.toInt64) :: st)) : Go p l e R s m args below meth c Ph n0 h k n pc Ls (.int x :: st) :=
  Go.pl (fun T t A S => XT.i2l A C.1 rfl (hb C.2.1 d) rfl (by subst hq; exact S)) K
theorem g_l2i (C : Cx p s m meth c Z own nm code ml ret) {x : Int64} (d : decode code pc = .ok (.l2i, 1))  (hq : pc + 1 = q) (K : Go p l e R s m args below meth c Ph n0 h k n q Ls (.int (x.toInt32) :: st)) : Go p l e R s m args below meth c Ph n0 h k n pc Ls (.long x :: st) :=
  Go.pl (fun T t A S => XT.l2i A C.1 rfl (hb C.2.1 d) rfl (by subst hq; exact S)) K
theorem g_i2b (C : Cx p s m meth c Z own nm code ml ret) {x : Int32} (d : decode code pc = .ok (.i2b, 1))  (hq : pc + 1 = q) (K : Go p l e R s m args below meth c Ph n0 h k n q Ls (.int (x.toInt8.toInt32) :: st)) : Go p l e R s m args below meth c Ph n0 h k n pc Ls (.int x :: st) :=
  Go.pl (fun T t A S => XT.i2b A C.1 rfl (hb C.2.1 d) rfl (by subst hq; exact S)) K
theorem g_i2c (C : Cx p s m meth c Z own nm code ml ret) {x : Int32} (d : decode code pc = .ok (.i2c, 1))  (hq : pc + 1 = q) (K : Go p l e R s m args below meth c Ph n0 h k n q Ls (.int (x.toUInt32.toUInt16.toUInt32.toInt32) :: st)) : Go p l e R s m args below meth c Ph n0 h k n pc Ls (.int x :: st) :=
  Go.pl (fun T t A S => XT.i2c A C.1 rfl (hb C.2.1 d) rfl (by subst hq; exact S)) K
theorem g_i2s (C : Cx p s m meth c Z own nm code ml ret) {x : Int32} (d : decode code pc = .ok (.i2s, 1))  (hq : pc + 1 = q) (K : Go p l e R s m args below meth c Ph n0 h k n q Ls (.int (x.toInt16.toInt32) :: st)) : Go p l e R s m args below meth c Ph n0 h k n pc Ls (.int x :: st) :=
  Go.pl (fun T t A S => XT.i2s A C.1 rfl (hb C.2.1 d) rfl (by subst hq; exact S)) K
theorem g_goto (C : Cx p s m meth c Z own nm code ml ret) {o : Int} (d : decode code pc = .ok (.goto o, 3)) (ho : 0 ≤ (pc : Int) + o) (hq : ((pc : Int) + o).toNat = q) (K : Go p l e R s m args below meth c Ph n0 h k n q Ls st) : Go p l e R s m args below meth c Ph n0 h k n pc Ls st :=
  Go.pl (fun T t A S => XS.goto A C.1 rfl rfl (hb C.2.1 d) ho hq S) K
theorem g_if (C : Cx p s m meth c Z own nm code ml ret) {cd : ClassFile.Cond} {x : Int32} {o : Int} {q' : Nat} (d : decode code pc = .ok (.ifCond cd o, 3)) (ho : 0 ≤ (pc : Int) + o) (hq' : ((pc : Int) + o).toNat = q') (hq : pc + 3 = q)
    (K1 : ifCond.holds cd x = true → Go p l e R s m args below meth c Ph n0 h k n q' Ls st) (K2 : ifCond.holds cd x = false → Go p l e R s m args below meth c Ph n0 h k n q Ls st) : Go p l e R s m args below meth c Ph n0 h k n pc Ls (.int x :: st) := by
  cases hb' : ifCond.holds cd x
  · exact Go.pl (fun T t A S => XS.ifNo A C.1 rfl (hb C.2.1 d) rfl hb' (by subst hq; exact S)) (K2 hb')
  · exact Go.pl (fun T t A S => XS.ifYes A C.1 rfl rfl (hb C.2.1 d) rfl hb' ho hq' S) (K1 hb')
theorem g_icmp (C : Cx p s m meth c Z own nm code ml ret) {cd : ClassFile.Cond} {x y : Int32} {o : Int} {q' : Nat} (d : decode code pc = .ok (.if_icmp cd o, 3)) (ho : 0 ≤ (pc : Int) + o) (hq' : ((pc : Int) + o).toNat = q') (hq : pc + 3 = q)
    (K1 : if_icmp.holds cd x y = true → Go p l e R s m args below meth c Ph n0 h k n q' Ls st) (K2 : if_icmp.holds cd x y = false → Go p l e R s m args below meth c Ph n0 h k n q Ls st) : Go p l e R s m args below meth c Ph n0 h k n pc Ls (.int y :: .int x :: st) := by
  cases hb' : if_icmp.holds cd x y
  · exact Go.pl (fun T t A S => XS.icmpNo A C.1 rfl (hb C.2.1 d) rfl hb' (by subst hq; exact S)) (K2 hb')
  · exact Go.pl (fun T t A S => XS.icmpYes A C.1 rfl rfl (hb C.2.1 d) rfl hb' ho hq' S) (K1 hb')
theorem g_if_eq (C : Cx p s m meth c Z own nm code ml ret) {x : Int32} {o : Int} {q' : Nat} (d : decode code pc = .ok (.ifCond .eq o, 3)) (ho : 0 ≤ (pc : Int) + o) (hq' : ((pc : Int) + o).toNat = q') (hq : pc + 3 = q)
    (K1 : x = 0 → Go p l e R s m args below meth c Ph n0 h k n q' Ls st) (K2 : ¬ x = 0 → Go p l e R s m args below meth c Ph n0 h k n q Ls st) : Go p l e R s m args below meth c Ph n0 h k n pc Ls (.int x :: st) :=
  g_if C d ho hq' hq (fun hh => K1 (by simpa [ifCond.holds, Int32.not_lt, Int32.not_le] using hh)) (fun hh => K2 (by simpa [ifCond.holds, Int32.not_lt, Int32.not_le] using hh))
theorem g_icmp_eq (C : Cx p s m meth c Z own nm code ml ret) {x y : Int32} {o : Int} {q' : Nat} (d : decode code pc = .ok (.if_icmp .eq o, 3)) (ho : 0 ≤ (pc : Int) + o) (hq' : ((pc : Int) + o).toNat = q') (hq : pc + 3 = q)
    (K1 : x = y → Go p l e R s m args below meth c Ph n0 h k n q' Ls st) (K2 : ¬ x = y → Go p l e R s m args below meth c Ph n0 h k n q Ls st) : Go p l e R s m args below meth c Ph n0 h k n pc Ls (.int y :: .int x :: st) :=
  g_icmp C d ho hq' hq (fun hh => K1 (by simpa [if_icmp.holds, Int32.not_lt, Int32.not_le] using hh)) (fun hh => K2 (by simpa [if_icmp.holds, Int32.not_lt, Int32.not_le] using hh))
theorem g_if_ne (C : Cx p s m meth c Z own nm code ml ret) {x : Int32} {o : Int} {q' : Nat} (d : decode code pc = .ok (.ifCond .ne o, 3)) (ho : 0 ≤ (pc : Int) + o) (hq' : ((pc : Int) + o).toNat = q') (hq : pc + 3 = q)
    (K1 : ¬ x = 0 → Go p l e R s m args below meth c Ph n0 h k n q' Ls st) (K2 : x = 0 → Go p l e R s m args below meth c Ph n0 h k n q Ls st) : Go p l e R s m args below meth c Ph n0 h k n pc Ls (.int x :: st) :=
  g_if C d ho hq' hq (fun hh => K1 (by simpa [ifCond.holds, Int32.not_lt, Int32.not_le] using hh)) (fun hh => K2 (by simpa [ifCond.holds, Int32.not_lt, Int32.not_le] using hh))
theorem g_icmp_ne (C : Cx p s m meth c Z own nm code ml ret) {x y : Int32} {o : Int} {q' : Nat} (d : decode code pc = .ok (.if_icmp .ne o, 3)) (ho : 0 ≤ (pc : Int) + o) (hq' : ((pc : Int) + o).toNat = q') (hq : pc + 3 = q)
    (K1 : ¬ x = y → Go p l e R s m args below meth c Ph n0 h k n q' Ls st) (K2 : x = y → Go p l e R s m args below meth c Ph n0 h k n q Ls st) : Go p l e R s m args below meth c Ph n0 h k n pc Ls (.int y :: .int x :: st) :=
  g_icmp C d ho hq' hq (fun hh => K1 (by simpa [if_icmp.holds, Int32.not_lt, Int32.not_le] using hh)) (fun hh => K2 (by simpa [if_icmp.holds, Int32.not_lt, Int32.not_le] using hh))
theorem g_if_lt (C : Cx p s m meth c Z own nm code ml ret) {x : Int32} {o : Int} {q' : Nat} (d : decode code pc = .ok (.ifCond .lt o, 3)) (ho : 0 ≤ (pc : Int) + o) (hq' : ((pc : Int) + o).toNat = q') (hq : pc + 3 = q)
    (K1 : x < 0 → Go p l e R s m args below meth c Ph n0 h k n q' Ls st) (K2 : ¬ x < 0 → Go p l e R s m args below meth c Ph n0 h k n q Ls st) : Go p l e R s m args below meth c Ph n0 h k n pc Ls (.int x :: st) :=
  g_if C d ho hq' hq (fun hh => K1 (by simpa [ifCond.holds, Int32.not_lt, Int32.not_le] using hh)) (fun hh => K2 (by simpa [ifCond.holds, Int32.not_lt, Int32.not_le] using hh))
theorem g_icmp_lt (C : Cx p s m meth c Z own nm code ml ret) {x y : Int32} {o : Int} {q' : Nat} (d : decode code pc = .ok (.if_icmp .lt o, 3)) (ho : 0 ≤ (pc : Int) + o) (hq' : ((pc : Int) + o).toNat = q') (hq : pc + 3 = q)
    (K1 : x < y → Go p l e R s m args below meth c Ph n0 h k n q' Ls st) (K2 : ¬ x < y → Go p l e R s m args below meth c Ph n0 h k n q Ls st) : Go p l e R s m args below meth c Ph n0 h k n pc Ls (.int y :: .int x :: st) :=
  g_icmp C d ho hq' hq (fun hh => K1 (by simpa [if_icmp.holds, Int32.not_lt, Int32.not_le] using hh)) (fun hh => K2 (by simpa [if_icmp.holds, Int32.not_lt, Int32.not_le] using hh))
theorem g_if_ge (C : Cx p s m meth c Z own nm code ml ret) {x : Int32} {o : Int} {q' : Nat} (d : decode code pc = .ok (.ifCond .ge o, 3)) (ho : 0 ≤ (pc : Int) + o) (hq' : ((pc : Int) + o).toNat = q') (hq : pc + 3 = q)
    (K1 : ¬ x < 0 → Go p l e R s m args below meth c Ph n0 h k n q' Ls st) (K2 : x < 0 → Go p l e R s m args below meth c Ph n0 h k n q Ls st) : Go p l e R s m args below meth c Ph n0 h k n pc Ls (.int x :: st) :=
  g_if C d ho hq' hq (fun hh => K1 (by simpa [ifCond.holds, Int32.not_lt, Int32.not_le] using hh)) (fun hh => K2 (by simpa [ifCond.holds, Int32.not_lt, Int32.not_le] using hh))
theorem g_icmp_ge (C : Cx p s m meth c Z own nm code ml ret) {x y : Int32} {o : Int} {q' : Nat} (d : decode code pc = .ok (.if_icmp .ge o, 3)) (ho : 0 ≤ (pc : Int) + o) (hq' : ((pc : Int) + o).toNat = q') (hq : pc + 3 = q)
    (K1 : ¬ x < y → Go p l e R s m args below meth c Ph n0 h k n q' Ls st) (K2 : x < y → Go p l e R s m args below meth c Ph n0 h k n q Ls st) : Go p l e R s m args below meth c Ph n0 h k n pc Ls (.int y :: .int x :: st) :=
  g_icmp C d ho hq' hq (fun hh => K1 (by simpa [if_icmp.holds, Int32.not_lt, Int32.not_le] using hh)) (fun hh => K2 (by simpa [if_icmp.holds, Int32.not_lt, Int32.not_le] using hh))
theorem g_if_gt (C : Cx p s m meth c Z own nm code ml ret) {x : Int32} {o : Int} {q' : Nat} (d : decode code pc = .ok (.ifCond .gt o, 3)) (ho : 0 ≤ (pc : Int) + o) (hq' : ((pc : Int) + o).toNat = q') (hq : pc + 3 = q)
    (K1 : 0 < x → Go p l e R s m args below meth c Ph n0 h k n q' Ls st) (K2 : ¬ 0 < x → Go p l e R s m args below meth c Ph n0 h k n q Ls st) : Go p l e R s m args below meth c Ph n0 h k n pc Ls (.int x :: st) :=
  g_if C d ho hq' hq (fun hh => K1 (by simpa [ifCond.holds, Int32.not_lt, Int32.not_le] using hh)) (fun hh => K2 (by simpa [ifCond.holds, Int32.not_lt, Int32.not_le] using hh))
theorem g_icmp_gt (C : Cx p s m meth c Z own nm code ml ret) {x y : Int32} {o : Int} {q' : Nat} (d : decode code pc = .ok (.if_icmp .gt o, 3)) (ho : 0 ≤ (pc : Int) + o) (hq' : ((pc : Int) + o).toNat = q') (hq : pc + 3 = q)
    (K1 : y < x → Go p l e R s m args below meth c Ph n0 h k n q' Ls st) (K2 : ¬ y < x → Go p l e R s m args below meth c Ph n0 h k n q Ls st) : Go p l e R s m args below meth c Ph n0 h k n pc Ls (.int y :: .int x :: st) :=
  g_icmp C d ho hq' hq (fun hh => K1 (by simpa [if_icmp.holds, Int32.not_lt, Int32.not_le] using hh)) (fun hh => K2 (by simpa [if_icmp.holds, Int32.not_lt, Int32.not_le] using hh))
theorem g_if_le (C : Cx p s m meth c Z own nm code ml ret) {x : Int32} {o : Int} {q' : Nat} (d : decode code pc = .ok (.ifCond .le o, 3)) (ho : 0 ≤ (pc : Int) + o) (hq' : ((pc : Int) + o).toNat = q') (hq : pc + 3 = q)
    (K1 : ¬ 0 < x → Go p l e R s m args below meth c Ph n0 h k n q' Ls st) (K2 : 0 < x → Go p l e R s m args below meth c Ph n0 h k n q Ls st) : Go p l e R s m args below meth c Ph n0 h k n pc Ls (.int x :: st) :=
  g_if C d ho hq' hq (fun hh => K1 (by simpa [ifCond.holds, Int32.not_lt, Int32.not_le] using hh)) (fun hh => K2 (by simpa [ifCond.holds, Int32.not_lt, Int32.not_le] using hh))
theorem g_icmp_le (C : Cx p s m meth c Z own nm code ml ret) {x y : Int32} {o : Int} {q' : Nat} (d : decode code pc = .ok (.if_icmp .le o, 3)) (ho : 0 ≤ (pc : Int) + o) (hq' : ((pc : Int) + o).toNat = q') (hq : pc + 3 = q)
    (K1 : ¬ y < x → Go p l e R s m args below meth c Ph n0 h k n q' Ls st) (K2 : y < x → Go p l e R s m args below meth c Ph n0 h k n q Ls st) : Go p l e R s m args below meth c Ph n0 h k n pc Ls (.int y :: .int x :: st) :=
  g_icmp C d ho hq' hq (fun hh => K1 (by simpa [if_icmp.holds, Int32.not_lt, Int32.not_le] using hh)) (fun hh => K2 (by simpa [if_icmp.holds, Int32.not_lt, Int32.not_le] using hh))
theorem g_ifnullY (C : Cx p s m meth c Z own nm code ml ret) {a : Addr} {o : Int} (d : decode code pc = .ok (.ifnull o, 3)) (ho : 0 ≤ (pc : Int) + o) (hq : ((pc : Int) + o).toNat = q) (K : Go p l e R s m args below meth c Ph n0 h k n q Ls st) : Go p l e R s m args below meth c Ph n0 h k n pc Ls (.null :: st) :=
  Go.pl (fun T t A S => XS.ifnullYes A C.1 rfl rfl (hb C.2.1 d) rfl ho hq S) K
theorem g_ifnullN (C : Cx p s m meth c Z own nm code ml ret) {a : Addr} {o : Int} (d : decode code pc = .ok (.ifnull o, 3)) (hq : pc + 3 = q) (K : Go p l e R s m args below meth c Ph n0 h k n q Ls st) : Go p l e R s m args below meth c Ph n0 h k n pc Ls (.ref a :: st) :=
  Go.pl (fun T t A S => XS.ifnullNo A C.1 rfl (hb C.2.1 d) rfl (by subst hq; exact S)) K
theorem g_ifnonnullY (C : Cx p s m meth c Z own nm code ml ret) {a : Addr} {o : Int} (d : decode code pc = .ok (.ifnonnull o, 3)) (ho : 0 ≤ (pc : Int) + o) (hq : ((pc : Int) + o).toNat = q) (K : Go p l e R s m args below meth c Ph n0 h k n q Ls st) : Go p l e R s m args below meth c Ph n0 h k n pc Ls (.ref a :: st) :=
  Go.pl (fun T t A S => XT.ifnonnullYes A C.1 rfl rfl (hb C.2.1 d) rfl ho hq S) K
theorem g_ifnonnullN (C : Cx p s m meth c Z own nm code ml ret) {a : Addr} {o : Int} (d : decode code pc = .ok (.ifnonnull o, 3)) (hq : pc + 3 = q) (K : Go p l e R s m args below meth c Ph n0 h k n q Ls st) : Go p l e R s m args below meth c Ph n0 h k n pc Ls (.null :: st) :=
  Go.pl (fun T t A S => XT.ifnonnullNo A C.1 rfl (hb C.2.1 d) rfl (by subst hq; exact S)) K
theorem g_acmp_eq (C : Cx p s m meth c Z own nm code ml ret) {x y : Value} {o : Int} {q' : Nat} (d : decode code pc = .ok (.if_acmp .eq o, 3)) (hx' : x.isRef = true) (hy' : y.isRef = true) (ho : 0 ≤ (pc : Int) + o) (hq' : ((pc : Int) + o).toNat = q') (hq : pc + 3 = q)
    (K1 : x = y → Go p l e R s m args below meth c Ph n0 h k n q' Ls st) (K2 : ¬ x = y → Go p l e R s m args below meth c Ph n0 h k n q Ls st) : Go p l e R s m args below meth c Ph n0 h k n pc Ls (y :: x :: st) := by
  by_cases hh : x = y
  · exact Go.pl (fun T t A S => XT.acmpYes A C.1 rfl rfl (hb C.2.1 d) rfl hx' hy' (by simpa [XT.acmp] using hh) ho hq' S) (K1 hh)
  · exact Go.pl (fun T t A S => XT.acmpNo A C.1 rfl (hb C.2.1 d) rfl hx' hy' (by simpa [XT.acmp] using hh) (by subst hq; exact S)) (K2 (by simpa using hh))
theorem g_acmp_ne (C : Cx p s m meth c Z own nm code ml ret) {x y : Value} {o : Int} {q' : Nat} (d : decode code pc = .ok (.if_acmp .ne o, 3)) (hx' : x.isRef = true) (hy' : y.isRef = true) (ho : 0 ≤ (pc : Int) + o) (hq' : ((pc : Int) + o).toNat = q') (hq : pc + 3 = q)
    (K1 : ¬ x = y → Go p l e R s m args below meth c Ph n0 h k n q' Ls st) (K2 : x = y → Go p l e R s m args below meth c Ph n0 h k n q Ls st) : Go p l e R s m args below meth c Ph n0 h k n pc Ls (y :: x :: st) := by
  by_cases hh : ¬ x = y
  · exact Go.pl (fun T t A S => XT.acmpYes A C.1 rfl rfl (hb C.2.1 d) rfl hx' hy' (by simpa [XT.acmp] using hh) ho hq' S) (K1 hh)
  · exact Go.pl (fun T t A S => XT.acmpNo A C.1 rfl (hb C.2.1 d) rfl hx' hy' (by simpa [XT.acmp] using hh) (by subst hq; exact S)) (K2 (by simpa using hh))
theorem g_getf (C : Cx p s m meth c Z own nm code ml ret) {R0 O f d' host : String} {index : Nat} {a : Addr} {v : Value} (d : decode code pc = .ok (.getfield index, 3)) (w : (Cond.fieldLink own index R0 f d').before a0 Z = true ∨ (Cond.fieldLinkNest own index R0 f d' host).before a0 Z = true) (via : Via Z R0 O f d') (F : Fld Z h a O f d' v) (hq : pc + 3 = q)
    (K : Go p l e R s m args below meth c Ph n0 h k n q Ls (v :: st)) : Go p l e R s m args below meth c Ph n0 h k n pc Ls (.ref a :: st) := fun T locs X N eT => by
  obtain ⟨T', X', e', stp⟩ := getF X C.1 C.2.2.2.2.1 C.2.2.2.1 w via eT F (g := mkF m pc Ls (.ref a :: st)) rfl rfl (hb C.2.1 d)
  obtain ⟨s₂, v, S, r⟩ := K T' locs X' N e'
  exact ⟨s₂, v, stp _ (by subst hq; exact S), r⟩
theorem g_gets (C : Cx p s m meth c Z own nm code ml ret) {R0 O f d' host : String} {index : Nat} {v : Value} (d : decode code pc = .ok (.getstatic index, 3)) (w : (Cond.fieldLink own index R0 f d').before a0 Z = true ∨ (Cond.fieldLinkNest own index R0 f d' host).before a0 Z = true) (via : Via Z R0 O f d') (F : Sta Z h O f d' v) (hq : pc + 3 = q)
    (K : Go p l e R s m args below meth c Ph n0 h k n q Ls (v :: st)) : Go p l e R s m args below meth c Ph n0 h k n pc Ls st := fun T locs X N eT => by
  obtain ⟨T', X', e', stp⟩ := getS2 X C.1 C.2.2.2.2.1 C.2.2.2.1 w via eT F (g := mkF m pc Ls st) rfl (hb C.2.1 d)
  obtain ⟨s₂, v, S, r⟩ := K T' locs X' N e'
  exact ⟨s₂, v, stp _ (by subst hq; exact S), r⟩
theorem g_putf (C : Cx p s m meth c Z own nm code ml ret) {R0 O f d' host Cl : String} {index kk : Nat} {a : Addr} {v old : Value} {ty : FieldType} (d : decode code pc = .ok (.putfield index, 3)) (w : (Cond.fieldLink own index R0 f d').before a0 Z = true ∨ (Cond.fieldLinkNest own index R0 f d' host).before a0 Z = true) (via : Via Z R0 O f d') (F : Fld Z h a O f d' old) (E : Exa Z h a Cl)
    (L : (Cond.lays Cl O f d').before a0 Z = true ∨ ((Cond.laysFinal Cl O f d').before a0 Z = true ∧ own = O ∧ nm = "<init>")) (wi : (Cond.instantiable Cl kk).before a0 Z = true) (hty : parseFieldDescriptor d' = some ty) (hn : narrow ty v = v) (hf : fits ty v = true) (ha : n0 ≤ a) (hq : pc + 3 = q)
    (K : ∀ h', Wr h h' a (Jvm.RoadKit.slotOf Z O f d') v → Go p l e R s m args below meth c Ph n0 h' k n q Ls st) : Go p l e R s m args below meth c Ph n0 h k n pc Ls (v :: .ref a :: st) := fun T locs X N eT => by
  obtain ⟨T', h', X', e', W, stp⟩ := putF X C.1 C.2.2.2.2.1 C.2.2.2.1 w via eT F E (L.imp id fun q => ⟨q.1, q.2.1, C.2.2.2.2.2.1.trans q.2.2⟩) wi hty hn hf (g := mkF m pc Ls (v :: .ref a :: st)) rfl rfl (hb C.2.1 d)
  obtain ⟨s₂, v, S, r⟩ := K h' W T' _ X' (Fr.snoc X' N ha) e'
  exact ⟨s₂, v, stp _ (by subst hq; exact S), r⟩
theorem g_new (C : Cx p s m meth c Z own nm code ml ret) {Cl : String} {index nn : Nat} (d : decode code pc = .ok (.new index, 3)) (w : (Cond.classLink own index Cl).before a0 Z = true) (wi : (Cond.instantiable Cl nn).before a0 Z = true) (wz : (Cond.initialized Cl).before a0 Z = true) (hc : k + 1 ≤ R.cells) (hl : n + nn ≤ R.slots) (hq : pc + 3 = q)
    (K : ∀ (a : Addr) (h' : Heap), a = h.size → Ext h h' → Exa Z h' a Cl → (∀ {O f d' : String} {ty : FieldType}, Laid Z a0 Cl O f d' → parseFieldDescriptor d' = some ty → Fld Z h' a O f d' (defaultValue ty)) → Go p l e R s m args below meth c Ph n0 h' (k + 1) (n + nn) q Ls (.ref a :: st)) : Go p l e R s m args below meth c Ph n0 h k n pc Ls st := fun T locs X N eT => by
  obtain ⟨T', h', X', e', E, A, D, -, stp⟩ := newO X C.1 C.2.2.2.2.1 C.2.2.2.1 w wi wz eT (g := mkF m pc Ls st) rfl (hb C.2.1 d) hc hl
  obtain ⟨s₂, v, S, r⟩ := K _ h' rfl E A D T' locs X' N e'
  exact ⟨s₂, v, stp _ (by subst hq; exact S), r⟩
theorem g_newarray (C : Cx p s m meth c Z own nm code ml ret) {aty : ArrayType} {N' : Int32} {cap : Nat} (d : decode code pc = .ok (.newarray aty, 2)) (w : (Cond.arrayClass (newarray.typeOf aty)).before a0 Z = true) (hn : ¬ N' < 0) (hcap : N'.toNatClampNeg ≤ cap) (hbg : cap * 8 ≤ 536870912) (hc : k + 1 ≤ R.cells) (hl : n + cap ≤ R.slots) (hq : pc + 2 = q)
    (K : ∀ (a : Addr) (h' : Heap) (cA : ClassId), a = h.size → Ext h h' → Arr Z h' a (newA cA (newarray.typeOf aty) N') (newarray.typeOf aty) → Go p l e R s m args below meth c Ph n0 h' (k + 1) (n + cap) q Ls (.ref a :: st)) : Go p l e R s m args below meth c Ph n0 h k n pc Ls (.int N' :: st) := fun T locs X N eT => by
  obtain ⟨T', h', cA, X', e', E, A, stp⟩ := newP X C.1 C.2.2.2.2.1 w eT (g := mkF m pc Ls (.int N' :: st)) rfl (hb C.2.1 d) rfl hn hcap hbg hc hl
  obtain ⟨s₂, v, S, r⟩ := K _ h' cA rfl E A T' locs X' N e'
  exact ⟨s₂, v, stp _ (by subst hq; exact S), r⟩
theorem g_anewarray (C : Cx p s m meth c Z own nm code ml ret) {Cl : String} {index : Nat} {N' : Int32} {cap : Nat} (d : decode code pc = .ok (.anewarray index, 3)) (w1 : (Cond.classLink own index Cl).before a0 Z = true) (w2 : (Cond.arrayOver (.object Cl)).before a0 Z = true) (hn : ¬ N' < 0) (hcap : N'.toNatClampNeg ≤ cap) (hbg : cap * 8 ≤ 536870912) (hc : k + 1 ≤ R.cells) (hl : n + cap ≤ R.slots) (hq : pc + 3 = q)
    (K : ∀ (a : Addr) (h' : Heap) (cA : ClassId), a = h.size → Ext h h' → Arr Z h' a (newA cA (.object Cl) N') (.object Cl) → Ovr Z cA Cl → Go p l e R s m args below meth c Ph n0 h' (k + 1) (n + cap) q Ls (.ref a :: st)) : Go p l e R s m args below meth c Ph n0 h k n pc Ls (.int N' :: st) := fun T locs X N eT => by
  obtain ⟨T', h', cA, X', e', E, A, O, stp⟩ := newR X C.1 C.2.2.2.2.1 C.2.2.2.1 w1 w2 eT (g := mkF m pc Ls (.int N' :: st)) rfl (hb C.2.1 d) rfl hn hcap hbg hc hl
  obtain ⟨s₂, v, S, r⟩ := K _ h' cA rfl E A O T' locs X' N e'
  exact ⟨s₂, v, stp _ (by subst hq; exact S), r⟩
theorem g_initO (C : Cx p s m meth c Z own nm code ml ret) {idx : Nat} {a : Addr} {W : Nat} (d : decode code pc = .ok (.invokespecial idx, 3)) (w1 : (Cond.methodLink own idx Lib.objectInit).before a0 Z = true) (w2 : (Cond.instanceMethod Lib.objectInit).before a0 Z = true) (w3 : (Cond.code Lib.objectInit ⟨#[0xb1]⟩ 1 none).before a0 Z = true)
    (hsz : Ls.size = ml) (hf : 1 ≤ R.frames) (hW : (st.map fun v => v.category).sum = W) (hl : W + 12 ≤ R.locals) (hq : pc + 3 = q) (K : Go p l e R s m args below meth c Ph n0 h k n q Ls st) : Go p l e R s m args below meth c Ph n0 h k n pc Ls (.ref a :: st) := fun T locs X N eT => by
  obtain ⟨T', X', e', stp⟩ := initO X C.1 C.2.2.2.2.1 C.2.2.2.1 w1 w2 w3 eT (g := mkF m pc Ls (.ref a :: st)) rfl (hsz.trans C.2.2.1.symm) rfl (hb C.2.1 d) hf (W := W) (by show 2 * 0 + _ ≤ _; rw [hW]; omega) hl
  obtain ⟨s₂, v, S, r⟩ := K T' locs X' N e'
  exact ⟨s₂, v, stp _ (by subst hq; exact S), r⟩
theorem g_castY (C : Cx p s m meth c Z own nm code ml ret) {K' : String} {index : Nat} {a : Addr} (d : decode code pc = .ok (.checkcast index, 3)) (w : (Cond.classLink own index K').before a0 Z = true) (F : Ins Z h a K' true) (hq : pc + 3 = q) (K : Go p l e R s m args below meth c Ph n0 h k n q Ls (.ref a :: st)) : Go p l e R s m args below meth c Ph n0 h k n pc Ls (.ref a :: st) := fun T locs X N eT => by
  obtain ⟨T', X', e', stp⟩ := castY X C.1 C.2.2.2.2.1 C.2.2.2.1 w eT F (g := mkF m pc Ls (.ref a :: st)) rfl rfl (hb C.2.1 d)
  obtain ⟨s₂, v, S, r⟩ := K T' locs X' N e'
  exact ⟨s₂, v, stp _ (by subst hq; exact S), r⟩
theorem g_instY (C : Cx p s m meth c Z own nm code ml ret) {K' : String} {index : Nat} {a : Addr} (d : decode code pc = .ok (.instanceof index, 3)) (w : (Cond.classLink own index K').before a0 Z = true) (F : Ins Z h a K' true) (hq : pc + 3 = q) (K : Go p l e R s m args below meth c Ph n0 h k n q Ls (.int 1 :: st)) : Go p l e R s m args below meth c Ph n0 h k n pc Ls (.ref a :: st) := fun T locs X N eT => by
  obtain ⟨T', X', e', stp⟩ := instY X C.1 C.2.2.2.2.1 C.2.2.2.1 w eT F (g := mkF m pc Ls (.ref a :: st)) rfl rfl (hb C.2.1 d)
  obtain ⟨s₂, v, S, r⟩ := K T' locs X' N e'
  exact ⟨s₂, v, stp _ (by subst hq; exact S), r⟩
theorem g_ldcInt (C : Cx p s m meth c Z own nm code ml ret) {index : Nat} {v : Int32} (d : decode code pc = .ok (.ldc index, 2)) (w : (Cond.constant own index v).before a0 Z = true) (hq : pc + 2 = q) (K : Go p l e R s m args below meth c Ph n0 h k n q Ls (.int v :: st)) : Go p l e R s m args below meth c Ph n0 h k n pc Ls st := fun T locs X N eT => by
  obtain ⟨s₂, v', S, r⟩ := K T locs X N eT
  exact ⟨s₂, v', X.ldcInt C.1 C.2.2.2.1 (mvT C.2.2.2.2.1 w) (g := mkF m pc Ls st) rfl (hb C.2.1 d) _ (by subst hq; exact S), r⟩
theorem g_ldc2Long (C : Cx p s m meth c Z own nm code ml ret) {index : Nat} {v : Int64} (d : decode code pc = .ok (.ldc2_w index, 3)) (w : (Cond.constantLong own index v).before a0 Z = true) (hq : pc + 3 = q) (K : Go p l e R s m args below meth c Ph n0 h k n q Ls (.long v :: st)) : Go p l e R s m args below meth c Ph n0 h k n pc Ls st := fun T locs X N eT => by
  obtain ⟨s₂, v', S, r⟩ := K T locs X N eT
  exact ⟨s₂, v', X.ldc2Long C.1 C.2.2.2.1 (mvT C.2.2.2.2.1 w) (g := mkF m pc Ls st) rfl (hb C.2.1 d) _ (by subst hq; exact S), r⟩
/-- an array of N places; place j holds f j -/
def Av (Z : State) (h : Heap) (a : Addr) (ty : FieldType) (N : Nat) (f : Nat → Value) : Prop := ∃ c : Cell, Arr Z h a c ty ∧ c.slots.size = N ∧ N < 2 ^ 31 ∧ ∀ j, j < N → c.slots[j]? = some (f j)
theorem Av.ext {h' : Heap} {a : Addr} {ty : FieldType} {N : Nat} {f : Nat → Value} (A : Av Z h a ty N f) (E : Ext h h') : Av Z h' a ty N f := by obtain ⟨c, A, r⟩ := A; exact ⟨c, A.ext E, r⟩
theorem Av.lt {a : Addr} {ty : FieldType} {N : Nat} {f : Nat → Value} (A : Av Z h a ty N f) : a < h.size := by obtain ⟨c, A, r⟩ := A; exact A.lt
theorem Av.other {h' : Heap} {a b : Addr} {ty : FieldType} {N sl : Nat} {v : Value} {f : Nat → Value} (A : Av Z h b ty N f) (W : Wr h h' a sl v) (ne : b ≠ a) : Av Z h' b ty N f := by obtain ⟨c, A, r⟩ := A; exact ⟨c, A.other W ne, r⟩
theorem Av.keep {h' : Heap} {a : Addr} {ty : FieldType} {N : Nat} {f : Nat → Value} {ws : List Addr} (A : Av Z h a ty N f) (K : Keep h h' ws) (ne : a ∉ ws) : Av Z h' a ty N f := by obtain ⟨c, A, r⟩ := A; exact ⟨c, ⟨K.2.1 a c A.1 ne, A.2⟩, r⟩
theorem Av.congr {a : Addr} {ty : FieldType} {N : Nat} {f g : Nat → Value} (A : Av Z h a ty N f) (hfg : ∀ j, j < N → f j = g j) : Av Z h a ty N g := by obtain ⟨c, A, r1, r2, r3⟩ := A; exact ⟨c, A, r1, r2, fun j hj => by rw [r3 j hj, hfg j hj]⟩
theorem Av.set {h' : Heap} {a : Addr} {ty : FieldType} {N i : Nat} {v : Value} {f : Nat → Value} (A : Av Z h a ty N f) (W : Wr h h' a i v) (hi : i < N) : Av Z h' a ty N (fun j => if j = i then v else f j) := by
  obtain ⟨c, A, r1, r2, r3⟩ := A
  refine ⟨c.setSlot i v, A.same W, by rw [sz_set]; exact r1, r2, fun j hj => ?_⟩
  by_cases e : j = i
  · subst e; simp [Cell.setSlot, r1, hi]
  · show (c.setSlot i v).slots[j]? = some (if j = i then v else f j)
    rw [if_neg e, ← r3 j hj]; simp [Cell.setSlot, Array.getElem?_setIfInBounds_ne (Ne.symm e)]
theorem Av.new {a : Addr} {ty : FieldType} {cA : ClassId} {N' : Int32} (A : Arr Z h a (newA cA ty N') ty) (hn : ¬ N' < 0) : Av Z h a ty N'.toNatClampNeg (fun _ => defaultValue ty) :=
  ⟨_, A, sz_new _ _ _, (back32 hn).2, fun j hj => by simp [newA, hj]⟩
theorem Av.ne_exa {a b : Addr} {ty : FieldType} {N kk : Nat} {f : Nat → Value} {Cl : String} (A : Av Z h a ty N f) (E : Exa Z h b Cl) (wi : (Cond.instantiable Cl kk).before a0 Z = true) : a ≠ b := by obtain ⟨c, A, r⟩ := A; exact Ne.symm (ne_arr E wi A)
theorem i32_idx {i N : Nat} (hi : i < N) (hN : N < 2 ^ 31) {c : Cell} (hc : c.slots.size = N) : (¬ (Int32.ofNat i < 0 ∨ c.slots.size ≤ (Int32.ofNat i).toNatClampNeg)) ∧ (Int32.ofNat i).toNatClampNeg = i := by
  have e : (Int32.ofNat i).toNatClampNeg = i := Int32.toNatClampNeg_ofNat_of_lt (by omega)
  refine ⟨?_, e⟩
  rw [e, hc]
  rintro (q | q)
  · have := Int32.lt_iff_toInt_lt.mp q
    rw [Int32.toInt_ofNat_of_lt (by omega)] at this
    simp at this
    omega
  · omega
theorem g_iaload (C : Cx p s m meth c Z own nm code ml ret) {a : Addr} {N i : Nat} {f : Nat → Value} {j : Int32} {v : Value} (d : decode code pc = .ok (.iaload, 1)) (A : Av Z h a .int N f) (hi : i < N) (hj : j = Int32.ofNat i) (hv : f i = v) (hq : pc + 1 = q) (K : Go p l e R s m args below meth c Ph n0 h k n q Ls (v :: st)) : Go p l e R s m args below meth c Ph n0 h k n pc Ls (.int j :: .ref a :: st) := fun T locs X N' eT => by
  obtain ⟨c', A, r1, r2, r3⟩ := A
  obtain ⟨g1, g2⟩ := i32_idx hi r2 r1
  obtain ⟨s₂, v', S, r⟩ := K T locs X N' eT
  subst hj hv
  exact ⟨s₂, v', X.iaload C.1 (by rw [eT]; exact A.1) (State.isArrayOf_alike C.2.2.2.2.1.alike A.2.1) A.2.2 g1 (by rw [g2]; exact r3 i hi) (g := mkF m pc Ls _) rfl rfl (hb C.2.1 d) _ (by subst hq; exact S), r⟩
theorem g_laload (C : Cx p s m meth c Z own nm code ml ret) {a : Addr} {N i : Nat} {f : Nat → Value} {j : Int32} {v : Value} (d : decode code pc = .ok (.laload, 1)) (A : Av Z h a .long N f) (hi : i < N) (hj : j = Int32.ofNat i) (hv : f i = v) (hq : pc + 1 = q) (K : Go p l e R s m args below meth c Ph n0 h k n q Ls (v :: st)) : Go p l e R s m args below meth c Ph n0 h k n pc Ls (.int j :: .ref a :: st) := fun T locs X N' eT => by
  obtain ⟨c', A, r1, r2, r3⟩ := A
  obtain ⟨g1, g2⟩ := i32_idx hi r2 r1
  obtain ⟨s₂, v', S, r⟩ := K T locs X N' eT
  subst hj hv
  exact ⟨s₂, v', X.laload C.1 (by rw [eT]; exact A.1) (State.isArrayOf_alike C.2.2.2.2.1.alike A.2.1) A.2.2 g1 (by rw [g2]; exact r3 i hi) (g := mkF m pc Ls _) rfl rfl (hb C.2.1 d) _ (by subst hq; exact S), r⟩
theorem g_caload (C : Cx p s m meth c Z own nm code ml ret) {a : Addr} {N i : Nat} {f : Nat → Value} {j : Int32} {v : Value} (d : decode code pc = .ok (.caload, 1)) (A : Av Z h a .char N f) (hi : i < N) (hj : j = Int32.ofNat i) (hv : f i = v) (hq : pc + 1 = q) (K : Go p l e R s m args below meth c Ph n0 h k n q Ls (v :: st)) : Go p l e R s m args below meth c Ph n0 h k n pc Ls (.int j :: .ref a :: st) := fun T locs X N' eT => by
  obtain ⟨c', A, r1, r2, r3⟩ := A
  obtain ⟨g1, g2⟩ := i32_idx hi r2 r1
  obtain ⟨s₂, v', S, r⟩ := K T locs X N' eT
  subst hj hv
  exact ⟨s₂, v', X.caload C.1 (by rw [eT]; exact A.1) (State.isArrayOf_alike C.2.2.2.2.1.alike A.2.1) A.2.2 g1 (by rw [g2]; exact r3 i hi) (g := mkF m pc Ls _) rfl rfl (hb C.2.1 d) _ (by subst hq; exact S), r⟩
theorem g_baload (C : Cx p s m meth c Z own nm code ml ret) {a : Addr} {N i : Nat} {f : Nat → Value} {j : Int32} {v : Value} (d : decode code pc = .ok (.baload, 1)) (A : Av Z h a .byte N f) (hi : i < N) (hj : j = Int32.ofNat i) (hv : f i = v) (hq : pc + 1 = q) (K : Go p l e R s m args below meth c Ph n0 h k n q Ls (v :: st)) : Go p l e R s m args below meth c Ph n0 h k n pc Ls (.int j :: .ref a :: st) := fun T locs X N' eT => by
  obtain ⟨c', A, r1, r2, r3⟩ := A
  obtain ⟨g1, g2⟩ := i32_idx hi r2 r1
  obtain ⟨s₂, v', S, r⟩ := K T locs X N' eT
  subst hj hv
  exact ⟨s₂, v', X.baloadBytes C.1 (by rw [eT]; exact A.1) (State.isArrayOf_alike C.2.2.2.2.1.alike A.2.1) A.2.2 g1 (by rw [g2]; exact r3 i hi) (g := mkF m pc Ls _) rfl rfl (hb C.2.1 d) _ (by subst hq; exact S), r⟩
theorem g_aaload (C : Cx p s m meth c Z own nm code ml ret) {a : Addr} {N i : Nat} {f : Nat → Value} {j : Int32} {v : Value} {ty : FieldType} (d : decode code pc = .ok (.aaload, 1)) (A : Av Z h a ty N f) (hty : ty.isReference = true) (hi : i < N) (hj : j = Int32.ofNat i) (hv : f i = v) (hq : pc + 1 = q) (K : Go p l e R s m args below meth c Ph n0 h k n q Ls (v :: st)) : Go p l e R s m args below meth c Ph n0 h k n pc Ls (.int j :: .ref a :: st) := fun T locs X N' eT => by
  obtain ⟨c', A, r1, r2, r3⟩ := A
  obtain ⟨g1, g2⟩ := i32_idx hi r2 r1
  obtain ⟨s₂, v', S, r⟩ := K T locs X N' eT
  subst hj hv
  exact ⟨s₂, v', X.aaload C.1 (by rw [eT]; exact A.1) (State.isArrayOf_alike C.2.2.2.2.1.alike A.2.1) hty A.2.2 g1 (by rw [g2]; exact r3 i hi) (g := mkF m pc Ls _) rfl rfl (hb C.2.1 d) _ (by subst hq; exact S), r⟩
theorem g_alen (C : Cx p s m meth c Z own nm code ml ret) {a : Addr} {N : Nat} {f : Nat → Value} {ty : FieldType} {z : Int32} (d : decode code pc = .ok (.arraylength, 1)) (A : Av Z h a ty N f) (hz : Int32.ofNat N = z) (hq : pc + 1 = q) (K : Go p l e R s m args below meth c Ph n0 h k n q Ls (.int z :: st)) : Go p l e R s m args below meth c Ph n0 h k n pc Ls (.ref a :: st) := fun T locs X N' eT => by
  obtain ⟨c', A, r1, r2, r3⟩ := A
  obtain ⟨s₂, v', S, r⟩ := K T locs X N' eT
  refine ⟨s₂, v', X.arraylength C.1 (by rw [eT]; exact A.1) (State.isArrayOf_alike C.2.2.2.2.1.alike A.2.1) (g := mkF m pc Ls _) rfl rfl (hb C.2.1 d) _ ?_, r⟩
  subst hq hz
  rw [r1]
  exact S
theorem g_iastore (C : Cx p s m meth c Z own nm code ml ret) {a : Addr} {N i : Nat} {f : Nat → Value} {j : Int32} {x : Int32} (d : decode code pc = .ok (.iastore, 1)) (A : Av Z h a .int N f) (hi : i < N) (hj : j = Int32.ofNat i) (ha : n0 ≤ a) (hq : pc + 1 = q)
    (K : ∀ h', Wr h h' a i (.int x) → Av Z h' a .int N (fun j => if j = i then (.int x) else f j) → Go p l e R s m args below meth c Ph n0 h' k n q Ls st) : Go p l e R s m args below meth c Ph n0 h k n pc Ls (.int x :: .int j :: .ref a :: st) := fun T locs X N' eT => by
  have A' := A
  obtain ⟨c', A, r1, r2, r3⟩ := A
  obtain ⟨g1, g2⟩ := i32_idx hi r2 r1
  subst hj
  obtain ⟨T', h', X', e', W, stp⟩ := stI X C.1 C.2.2.2.2.1 eT A g1 (g := mkF m pc Ls (.int x :: .int (Int32.ofNat i) :: .ref a :: st)) rfl rfl (hb C.2.1 d)
  have N2 := Fr.snoc X' N' ha
  rw [g2] at W
  obtain ⟨s₂, v, S, r⟩ := K h' W (A'.set W hi) T' _ X' N2 e'
  exact ⟨s₂, v, stp _ (by subst hq; exact S), r⟩
theorem g_lastore (C : Cx p s m meth c Z own nm code ml ret) {a : Addr} {N i : Nat} {f : Nat → Value} {j : Int32} {x : Int64} (d : decode code pc = .ok (.lastore, 1)) (A : Av Z h a .long N f) (hi : i < N) (hj : j = Int32.ofNat i) (ha : n0 ≤ a) (hq : pc + 1 = q)
    (K : ∀ h', Wr h h' a i (.long x) → Av Z h' a .long N (fun j => if j = i then (.long x) else f j) → Go p l e R s m args below meth c Ph n0 h' k n q Ls st) : Go p l e R s m args below meth c Ph n0 h k n pc Ls (.long x :: .int j :: .ref a :: st) := fun T locs X N' eT => by
  have A' := A
  obtain ⟨c', A, r1, r2, r3⟩ := A
  obtain ⟨g1, g2⟩ := i32_idx hi r2 r1
  subst hj
  obtain ⟨T', h', X', e', W, stp⟩ := stJ X C.1 C.2.2.2.2.1 eT A g1 (g := mkF m pc Ls (.long x :: .int (Int32.ofNat i) :: .ref a :: st)) rfl rfl (hb C.2.1 d)
  have N2 := Fr.snoc X' N' ha
  rw [g2] at W
  obtain ⟨s₂, v, S, r⟩ := K h' W (A'.set W hi) T' _ X' N2 e'
  exact ⟨s₂, v, stp _ (by subst hq; exact S), r⟩
theorem g_castore (C : Cx p s m meth c Z own nm code ml ret) {a : Addr} {N i : Nat} {f : Nat → Value} {j : Int32} {x : Int32} (d : decode code pc = .ok (.castore, 1)) (A : Av Z h a .char N f) (hi : i < N) (hj : j = Int32.ofNat i) (ha : n0 ≤ a) (hq : pc + 1 = q)
    (K : ∀ h', Wr h h' a i (.int (nar .char x)) → Av Z h' a .char N (fun j => if j = i then (.int (nar .char x)) else f j) → Go p l e R s m args below meth c Ph n0 h' k n q Ls st) : Go p l e R s m args below meth c Ph n0 h k n pc Ls (.int x :: .int j :: .ref a :: st) := fun T locs X N' eT => by
  have A' := A
  obtain ⟨c', A, r1, r2, r3⟩ := A
  obtain ⟨g1, g2⟩ := i32_idx hi r2 r1
  subst hj
  obtain ⟨T', h', X', e', W, stp⟩ := stC X C.1 C.2.2.2.2.1 eT A g1 (g := mkF m pc Ls (.int x :: .int (Int32.ofNat i) :: .ref a :: st)) rfl rfl (hb C.2.1 d)
  have N2 := Fr.snoc X' N' ha
  rw [g2] at W
  obtain ⟨s₂, v, S, r⟩ := K h' W (A'.set W hi) T' _ X' N2 e'
  exact ⟨s₂, v, stp _ (by subst hq; exact S), r⟩
theorem g_bastore (C : Cx p s m meth c Z own nm code ml ret) {a : Addr} {N i : Nat} {f : Nat → Value} {j : Int32} {x : Int32} (d : decode code pc = .ok (.bastore, 1)) (A : Av Z h a .byte N f) (hi : i < N) (hj : j = Int32.ofNat i) (ha : n0 ≤ a) (hq : pc + 1 = q)
    (K : ∀ h', Wr h h' a i (.int (nar .byte x)) → Av Z h' a .byte N (fun j => if j = i then (.int (nar .byte x)) else f j) → Go p l e R s m args below meth c Ph n0 h' k n q Ls st) : Go p l e R s m args below meth c Ph n0 h k n pc Ls (.int x :: .int j :: .ref a :: st) := fun T locs X N' eT => by
  have A' := A
  obtain ⟨c', A, r1, r2, r3⟩ := A
  obtain ⟨g1, g2⟩ := i32_idx hi r2 r1
  subst hj
  obtain ⟨T', h', X', e', W, stp⟩ := stB X C.1 C.2.2.2.2.1 eT A g1 (g := mkF m pc Ls (.int x :: .int (Int32.ofNat i) :: .ref a :: st)) rfl rfl (hb C.2.1 d)
  have N2 := Fr.snoc X' N' ha
  rw [g2] at W
  obtain ⟨s₂, v, S, r⟩ := K h' W (A'.set W hi) T' _ X' N2 e'
  exact ⟨s₂, v, stp _ (by subst hq; exact S), r⟩
theorem g_aastore (C : Cx p s m meth c Z own nm code ml ret) {a : Addr} {N i : Nat} {f : Nat → Value} {j : Int32} {x : Value} {ty : FieldType} (d : decode code pc = .ok (.aastore, 1)) (A : Av Z h a ty N f) (hi : i < N) (hj : j = Int32.ofNat i) (hty : ty.isReference = true) (F : Sto Z h a x) (ha : n0 ≤ a) (hq : pc + 1 = q)
    (K : ∀ h', Wr h h' a i x → Av Z h' a ty N (fun j => if j = i then x else f j) → Go p l e R s m args below meth c Ph n0 h' k n q Ls st) : Go p l e R s m args below meth c Ph n0 h k n pc Ls (x :: .int j :: .ref a :: st) := fun T locs X N' eT => by
  have A' := A
  obtain ⟨c', A, r1, r2, r3⟩ := A
  obtain ⟨g1, g2⟩ := i32_idx hi r2 r1
  subst hj
  obtain ⟨T', h', X', e', W, stp⟩ := stR X C.1 C.2.2.2.2.1 eT A g1 hty F (g := mkF m pc Ls (x :: .int (Int32.ofNat i) :: .ref a :: st)) rfl rfl (hb C.2.1 d)
  have N2 := Fr.snoc X' N' ha
  rw [g2] at W
  obtain ⟨s₂, v, S, r⟩ := K h' W (A'.set W hi) T' _ X' N2 e'
  exact ⟨s₂, v, stp _ (by subst hq; exact S), r⟩
/-- a contract: with the arguments as', from the heap hs, the call returns v with Q v (the heap then); the written places lie at or above nf; rm: its room -/
def Ctr (l : Launch) (Z : State) (y : MethodName) (bytes : ByteArray) (maxL : Nat) (rt : Option FieldType) (rm : Room) (as' : Array Value) (hs : Heap) (nf : Nat) (Q : Option Value → Heap → Prop) : Prop :=
  MetFree l y (head1 [Cond.code y bytes maxL rt] rm) (fun a U => a = as' ∧ Z.Warmed39 U.vm ∧ U.heap = hs) (fun _ _ _ _ _ => True) (fun _ U o U' => ∃ v L, o = .returned v ∧ (Q v U'.heap ∧ Fr nf L) ∧ FrameEnd U o U' L rm.cells rm.slots)
/-- what a narrow walk must come to -/
def FinN (s : State) (below : List Frame) (rm : Room) (nf : Nat) (Q : Option Value → Heap → Prop) : State → Option Value → Prop :=
  fun s₂ v => s₂.status = .running ∧ Ended s₂ below (.returned v) ∧ ∃ L, (Q v s₂.heap ∧ Fr nf L) ∧ FrameEnd s (.returned v) s₂ L rm.cells rm.slots
theorem Ctr.of {l : Launch} {Z : State} {y : MethodName} {bytes : ByteArray} {maxL : Nat} {rt : Option FieldType} {rm : Room} {as' : Array Value} {hs : Heap} {nf : Nat} {Q : Option Value → Heap → Prop} {n1 : Nat} (Ls : Array Slot) (hp : plainFor y = true) (hE : ∀ m, entryFrame m as' maxL = mkF m 0 Ls [])
    (B : ∀ (p : Program) (e : Env) (s : State) (m : MethodId) (below : List Frame) (meth : Method) (c : Code), Cx p s m meth c Z y.cls y.name bytes maxL rt → Go p l e rm s m as' below meth c (FinN s below rm nf Q) n1 hs 0 0 0 Ls []) : Ctr l Z y bytes maxL rt rm as' hs nf Q := by
  refine MetFree.of_bodySF hp hisR ?_
  intro p e s m args below meth c s₁ Bd hml0 hP hK
  obtain ⟨rfl, hZ, hh⟩ := hP
  have X0 : Stand p l e rm s m _ below meth c s₁ [] 0 0 := Stand.of_body Bd
  have e0 : s₁.heap = hs := by rw [← hh, Bd.state]; rfl
  obtain ⟨s₂, v, S, r1, r2, L, r3, r4⟩ := B p e s m below meth c ⟨Bd.exec, Bd.bytes, hml0, findClass_of_methodNamed Bd.named, hZ, (name_of_methodNamed Bd.named Bd.method).1, Bd.returns, Bd.notSynchronized⟩ s₁ [] X0 (Fr.nil _) e0
  exact ⟨s₂, _, castTop (hE m) S, r1, r2, v, L, rfl, r3, r4⟩
theorem fin_of {T : State} {locs : List Loc} {rm : Room} {nf : Nat} {Q : Option Value → Heap → Prop} {v : Option Value} {st' : List Value} (C : Cx p s m meth c Z own nm code ml ret) (X : Stand p l e R s m args below meth c T locs k n) (N : Fr n0 locs) (eT : T.heap = h) (hv : ret = none → v = none) (hn : nf ≤ n0) (hk : k ≤ rm.cells) (hl : n ≤ rm.slots) (hQ : Q v h)
    (H : ∀ fs, (∀ (f : JFrame) (acts : List Action), f.method = m → f.locked = none → f.entered = [] → (doReturn e (T.setTop f) acts v).1 = T.setFrames fs) → Steps p.tables e below (T.setTop (mkF m pc Ls st')) (T.setFrames fs)) :
    ∃ s₂ v, Steps p.tables e below (T.setTop (mkF m pc Ls st')) s₂ ∧ FinN s below rm nf Q s₂ v := by
  obtain ⟨fs, hr, hrun, hended, hW, hsame⟩ := X.leave (v := v) (fun hh => hv (C.2.2.2.2.2.2.1.symm.trans hh)) C.2.2.2.2.2.2.2
  exact ⟨_, v, H fs hr, hrun, hended, locs, ⟨by rw [show (T.setFrames fs).heap = h from eT]; exact hQ, fun y hy => Nat.le_trans hn (N y hy)⟩, ⟨v, rfl⟩, hW, hsame.mono hk hl⟩
theorem g_return {rm : Room} {nf : Nat} {Q : Option Value → Heap → Prop} (C : Cx p s m meth c Z own nm code ml none) (d : decode code pc = .ok (.return_, 1)) (hn : nf ≤ n0) (hk : k ≤ rm.cells) (hl : n ≤ rm.slots) (hQ : Q none h) : Go p l e R s m args below meth c (FinN s below rm nf Q) n0 h k n pc Ls [] :=
  fun T locs X N eT => fin_of C X N eT (fun _ => rfl) hn hk hl hQ fun fs hr => X.returnOut C.1 C.2.2.2.2.2.2.1 (hb C.2.1 d) hr
theorem g_ireturn {rm : Room} {nf : Nat} {Q : Option Value → Heap → Prop} {x : Int32} (C : Cx p s m meth c Z own nm code ml (some .int)) (d : decode code pc = .ok (.ireturn, 1)) (hn : nf ≤ n0) (hk : k ≤ rm.cells) (hl : n ≤ rm.slots) (hQ : Q (some (.int x)) h) : Go p l e R s m args below meth c (FinN s below rm nf Q) n0 h k n pc Ls (.int x :: st) :=
  fun T locs X N eT => fin_of C X N eT (fun hh => nomatch hh) hn hk hl hQ fun fs hr => retI X C.1 C.2.2.2.2.2.2.1 (hb C.2.1 d) hr
theorem g_nreturn {rm : Room} {nf : Nat} {Q : Option Value → Heap → Prop} {x z : Int32} {t : FieldType} (C : Cx p s m meth c Z own nm code ml (some t)) (d : decode code pc = .ok (.ireturn, 1)) (ht : t = .boolean ∨ t = .byte ∨ t = .char ∨ t = .short) (hz : nar t x = z) (hn : nf ≤ n0) (hk : k ≤ rm.cells) (hl : n ≤ rm.slots) (hQ : Q (some (.int z)) h) : Go p l e R s m args below meth c (FinN s below rm nf Q) n0 h k n pc Ls (.int x :: st) :=
  fun T locs X N eT => fin_of (v := some (.int z)) C X N eT (fun hh => nomatch hh) hn hk hl hQ fun fs hr => retN X C.1 C.2.2.2.2.2.2.1 ht (hb C.2.1 d) (by rw [hz]; exact hr)
theorem g_lreturn {rm : Room} {nf : Nat} {Q : Option Value → Heap → Prop} {x : Int64} (C : Cx p s m meth c Z own nm code ml (some .long)) (d : decode code pc = .ok (.lreturn, 1)) (hn : nf ≤ n0) (hk : k ≤ rm.cells) (hl : n ≤ rm.slots) (hQ : Q (some (.long x)) h) : Go p l e R s m args below meth c (FinN s below rm nf Q) n0 h k n pc Ls (.long x :: st) :=
  fun T locs X N eT => fin_of C X N eT (fun hh => nomatch hh) hn hk hl hQ fun fs hr => retOut X C.1 C.2.2.2.2.2.2.1 rfl (Or.inr (Or.inl ⟨rfl, rfl, x, rfl⟩)) (hb C.2.1 d) hr
theorem g_areturn {rm : Room} {nf : Nat} {Q : Option Value → Heap → Prop} {x : Value} {t : FieldType} (C : Cx p s m meth c Z own nm code ml (some t)) (d : decode code pc = .ok (.areturn, 1)) (ht : t.isReference = true) (hx : x.isRef = true) (hn : nf ≤ n0) (hk : k ≤ rm.cells) (hl : n ≤ rm.slots) (hQ : Q (some x) h) : Go p l e R s m args below meth c (FinN s below rm nf Q) n0 h k n pc Ls (x :: st) :=
  fun T locs X N eT => fin_of C X N eT (fun hh => nomatch hh) hn hk hl hQ fun fs hr => retOut X C.1 C.2.2.2.2.2.2.1 (by rcases ref_cases hx with rfl | ⟨a, rfl⟩ <;> cases t <;> first | rfl | cases ht) (Or.inr (Or.inr (Or.inr (Or.inr ⟨rfl, ht, hx⟩)))) (hb C.2.1 d) hr
/-- a callee that pays, at this walk -/
def BK (l : Launch) (R : Room) (p : Program) (e : Env) (below : List Frame) (s : State) (args : Array Value) (y : MethodName) (len W : Nat) (as' : Array Value) (h : Heap) (ck sk n0 : Nat) (Q : Option Value → Heap → Prop) : Prop :=
  Back l R p e below s args y len W (fun A a => a = as' ∧ A.U.heap = h ∧ A.cells + ck ≤ R.cells ∧ A.slots + sk ≤ R.slots) (fun A _ v B => ∃ L, (Q v B.U.heap ∧ Fr n0 L) ∧ B.locs = A.locs ++ L ∧ B.cells = A.cells + ck ∧ B.slots = A.slots + sk)
theorem Ctr.bk {y : MethodName} {bytes : ByteArray} {maxL len W : Nat} {rt : Option FieldType} {rm : Room} {as' : Array Value} {Q : Option Value → Heap → Prop} (M : Ctr l Z y bytes maxL rt rm as' h n0 Q) (C : Cx p s m meth c Z own nm code ml ret) (w4 : (Cond.code y bytes maxL rt).before a0 Z = true) (w3 : (Cond.initialized y.cls).before a0 Z = true) (hf : rm.frames + 1 ≤ R.frames) (hl : W + (maxL + 11) + rm.locals ≤ R.locals) : BK l R p e below s args y len W as' h rm.cells rm.slots n0 Q :=
  backOf (W := W) (Q := fun v h' L => Q v h' ∧ Fr n0 L) M C.2.2.2.2.1 w4 w3 hf hl
theorem g_callS (C : Cx p s m meth c Z own nm code ml ret) {y : MethodName} {bytes : ByteArray} {maxL ck sk : Nat} {rt : Option FieldType} {Q : Option Value → Heap → Prop} {index W : Nat} {argsL : List Value} (d : decode code pc = .ok (.invokestatic index, 3)) (w1 : (Cond.methodLink own index y).before a0 Z = true) (w2 : (Cond.static y).before a0 Z = true) (w3 : (Cond.initialized y.cls).before a0 Z = true) (w4 : (Cond.code y bytes maxL rt).before a0 Z = true) (hy : y.cls ≠ "java/lang/invoke/MethodHandle" ∧ y.cls ≠ "java/lang/invoke/VarHandle")
    (M : BK l R p e below s args y 3 W argsL.toArray h ck sk n0 Q) (hc : k + ck ≤ R.cells) (hs : n + sk ≤ R.slots) (hsz : Ls.size = ml) (hlen : ∀ sig, parseMethodDescriptor y.desc = some sig → argsL.length = sig.parameters.length) (hst : st = argsL.reverse ++ rest) (hW : (rest.map fun v => v.category).sum = W) (hq : pc + 3 = q)
    (K : ∀ v h', Q v h' → ∃ st', st' = v.toList ++ rest ∧ Go p l e R s m args below meth c Ph n0 h' (k + ck) (n + sk) q Ls st') : Go p l e R s m args below meth c Ph n0 h k n pc Ls st := fun T locs X N eT => by
  have hZ := C.2.2.2.2.1
  obtain ⟨v, vm1, ⟨T', L', k', n'⟩, -, X', ⟨L, ⟨hQ, NL⟩, l1, l2, l3⟩, stp⟩ := Jvm.LawKit.callS X C.1 (y := y) C.2.2.2.1 (mvT hZ w1) (mvT hZ w2) (mvT hZ w3) (mvT hZ w4) hy M (g := mkF m pc Ls st) rfl (hsz.trans C.2.2.1.symm) (argsL := argsL) (rest := rest) hlen hst (by show 2 * 0 + _ ≤ _; rw [hW]; omega) (hb C.2.1 d) (fun _ _ => ⟨rfl, eT, hc, hs⟩)
  dsimp only [Pt.U, Pt.locs, Pt.cells, Pt.slots] at X' l1 l2 l3 stp
  subst l1 l2 l3
  obtain ⟨st', hst', K'⟩ := K v _ hQ
  obtain ⟨s₂, v', S, r⟩ := K' _ _ X' (N.app NL) rfl
  exact ⟨s₂, v', stp _ (by subst hq hst'; exact S), r⟩
theorem g_callI (C : Cx p s m meth c Z own nm code ml ret) {y : MethodName} {bytes : ByteArray} {maxL ck sk : Nat} {Q : Option Value → Heap → Prop} {index W : Nat} {argsL : List Value} {a : Addr} (d : decode code pc = .ok (.invokespecial index, 3)) (hy1 : y.name = "<init>") (w1 : (Cond.methodLink own index y).before a0 Z = true) (w2 : (Cond.instanceMethod y).before a0 Z = true) (w4 : (Cond.code y bytes maxL none).before a0 Z = true) (hy : y.cls ≠ "java/lang/invoke/MethodHandle" ∧ y.cls ≠ "java/lang/invoke/VarHandle")
    (M : BK l R p e below s args y 3 W (.ref a :: argsL).toArray h ck sk n0 Q) (hc : k + ck ≤ R.cells) (hs : n + sk ≤ R.slots) (hsz : Ls.size = ml) (hlen : ∀ sig, parseMethodDescriptor y.desc = some sig → argsL.length = sig.parameters.length) (hst : st = argsL.reverse ++ .ref a :: rest) (hW : (rest.map fun v => v.category).sum = W) (hq : pc + 3 = q)
    (K : ∀ v h', Q v h' → ∃ st', st' = v.toList ++ rest ∧ Go p l e R s m args below meth c Ph n0 h' (k + ck) (n + sk) q Ls st') : Go p l e R s m args below meth c Ph n0 h k n pc Ls st := fun T locs X N eT => by
  have hZ := C.2.2.2.2.1
  obtain ⟨v, vm1, ⟨T', L', k', n'⟩, -, X', ⟨L, ⟨hQ, NL⟩, l1, l2, l3⟩, stp⟩ := X.specialBack C.1 (y := y) hy1 C.2.2.2.1 (mvT hZ w1) (mvT hZ w2) (mvT hZ w4) hy M (g := mkF m pc Ls st) rfl (hsz.trans C.2.2.1.symm) (Steps.refl _) (a := a) (argsL := argsL) (rest := rest) hlen hst (by show 2 * 0 + _ ≤ _; rw [hW]; omega) (hb C.2.1 d) (fun _ _ => ⟨rfl, eT, hc, hs⟩)
  dsimp only [Pt.U, Pt.locs, Pt.cells, Pt.slots] at X' l1 l2 l3 stp
  subst l1 l2 l3
  obtain ⟨st', hst', K'⟩ := K v _ hQ
  obtain ⟨s₂, v', S, r⟩ := K' _ _ X' (N.app NL) rfl
  exact ⟨s₂, v', stp.trans (by subst hq hst'; exact S), r⟩
theorem g_callV (C : Cx p s m meth c Z own nm code ml ret) {y : MethodName} {ck sk : Nat} {Q : Option Value → Heap → Prop} {index W : Nat} {argsL : List Value} {y0 : MethodName} {Cl : String} {a : Addr} (d : decode code pc = .ok (.invokevirtual index, 3)) (w1 : (Cond.methodLink own index y0).before a0 Z = true) (w2 : (Cond.declares y0).before a0 Z = true) (w5 : (Cond.selects Cl y0 y).before a0 Z = true) (w6 : (Cond.instanceMethod y).before a0 Z = true) (hy : y0.cls ≠ "java/lang/invoke/MethodHandle" ∧ y0.cls ≠ "java/lang/invoke/VarHandle") (hnf : NotFace s y0)
    (E : Exa Z h a Cl) (M : BK l R p e below s args y 3 W (.ref a :: argsL).toArray h ck sk n0 Q) (hc : k + ck ≤ R.cells) (hs : n + sk ≤ R.slots) (hsz : Ls.size = ml) (hlen : ∀ sig, parseMethodDescriptor y0.desc = some sig → argsL.length = sig.parameters.length) (hst : st = argsL.reverse ++ .ref a :: rest) (hW : (rest.map fun v => v.category).sum = W) (hq : pc + 3 = q)
    (K : ∀ v h', Q v h' → ∃ st', st' = v.toList ++ rest ∧ Go p l e R s m args below meth c Ph n0 h' (k + ck) (n + sk) q Ls st') : Go p l e R s m args below meth c Ph n0 h k n pc Ls st := fun T locs X N eT => by
  have hZ := C.2.2.2.2.1
  obtain ⟨cq, kq, qa, qb, qc⟩ := isOf hZ eT E
  obtain ⟨v, vm1, ⟨T', L', k', n'⟩, -, X', ⟨L, ⟨hQ, NL⟩, l1, l2, l3⟩, stp⟩ := X.virtualBack C.1 (y := y0) (z := y) C.2.2.2.1 (mvT hZ w1) (mvT hZ w2) hnf (mvT hZ w5) (mvT hZ w6) hy M qa qc (g := mkF m pc Ls st) rfl (hsz.trans C.2.2.1.symm) (Steps.refl _) (argsL := argsL) (rest := rest) hlen hst (by show 2 * 0 + _ ≤ _; rw [hW]; omega) (hb C.2.1 d) (fun _ _ => ⟨rfl, eT, hc, hs⟩)
  dsimp only [Pt.U, Pt.locs, Pt.cells, Pt.slots] at X' l1 l2 l3 stp
  subst l1 l2 l3
  obtain ⟨st', hst', K'⟩ := K v _ hQ
  obtain ⟨s₂, v', S, r⟩ := K' _ _ X' (N.app NL) rfl
  exact ⟨s₂, v', stp.trans (by subst hq hst'; exact S), r⟩
theorem g_callP (C : Cx p s m meth c Z own nm code ml ret) {y : MethodName} {bytes : ByteArray} {maxL ck sk : Nat} {rt : Option FieldType} {Q : Option Value → Heap → Prop} {index W : Nat} {argsL : List Value} {Cl : String} {a : Addr} (d : decode code pc = .ok (.invokevirtual index, 3)) (w1 : (Cond.methodLink own index y).before a0 Z = true) (w2 : (Cond.instanceMethod y).before a0 Z = true) {kk : Nat} (wi : (Cond.instantiable y.cls kk).before a0 Z = true) (w4 : (Cond.code y bytes maxL rt).before a0 Z = true) (hy : y.cls ≠ "java/lang/invoke/MethodHandle" ∧ y.cls ≠ "java/lang/invoke/VarHandle") (hpr : s.PrivateAt y)
    (E : Exa Z h a Cl) (M : BK l R p e below s args y 3 W (.ref a :: argsL).toArray h ck sk n0 Q) (hc : k + ck ≤ R.cells) (hs : n + sk ≤ R.slots) (hsz : Ls.size = ml) (hlen : ∀ sig, parseMethodDescriptor y.desc = some sig → argsL.length = sig.parameters.length) (hst : st = argsL.reverse ++ .ref a :: rest) (hW : (rest.map fun v => v.category).sum = W) (hq : pc + 3 = q)
    (K : ∀ v h', Q v h' → ∃ st', st' = v.toList ++ rest ∧ Go p l e R s m args below meth c Ph n0 h' (k + ck) (n + sk) q Ls st') : Go p l e R s m args below meth c Ph n0 h k n pc Ls st := fun T locs X N eT => by
  have hZ := C.2.2.2.2.1
  obtain ⟨ce, hce, hob⟩ := E.cell
  obtain ⟨ci, ki, hci, hki, -, hni, -⟩ := Cond.instantiable_spec (mv (args := args) hZ wi)
  simp only [Bool.or_eq_false_iff] at hni
  have w5 : (Cond.selects y.cls y y).before args s = true := Jvm.Stand.selects_self_of_private hci hki hni.1 hpr (mvT hZ w2) hy
  obtain ⟨v, vm1, ⟨T', L', k', n'⟩, -, X', ⟨L, ⟨hQ, NL⟩, l1, l2, l3⟩, stp⟩ := X.privateBack C.1 (y := y) C.2.2.2.1 (mvT hZ w1) (mvT hZ w2) w5 hpr (mvT hZ w4) hy M (g := mkF m pc Ls st) rfl (hsz.trans C.2.2.1.symm) (Steps.refl _) (a := a) (cell := ce) (by rw [eT]; exact hce) hob (argsL := argsL) (rest := rest) hlen hst (by show 2 * 0 + _ ≤ _; rw [hW]; omega) (hb C.2.1 d) (fun _ _ => ⟨rfl, eT, hc, hs⟩)
  dsimp only [Pt.U, Pt.locs, Pt.cells, Pt.slots] at X' l1 l2 l3 stp
  subst l1 l2 l3
  obtain ⟨st', hst', K'⟩ := K v _ hQ
  obtain ⟨s₂, v', S, r⟩ := K' _ _ X' (N.app NL) rfl
  exact ⟨s₂, v', stp.trans (by subst hq hst'; exact S), r⟩
theorem g_callF (C : Cx p s m meth c Z own nm code ml ret) {y : MethodName} {ck sk : Nat} {Q : Option Value → Heap → Prop} {index W : Nat} {argsL : List Value} {xi : MethodName} {Cl : String} {a : Addr} {count : Nat} (d : decode code pc = .ok (.invokeinterface index count, 5)) (w1 : (Cond.methodLink own index xi).before a0 Z = true) (w2 : (Cond.declares xi).before a0 Z = true) (w3 : (Cond.interfaceMethod xi.cls xi.cls xi.name xi.desc).before a0 Z = true) (w5 : (Cond.selects Cl xi y).before a0 Z = true) (w6 : (Cond.instanceMethod y).before a0 Z = true) (w7 : (Cond.publicMethod y).before a0 Z = true) (w8 : (Cond.unhidden Cl xi.name xi.desc).before a0 Z = true) (w9 : (Cond.castable Cl xi.cls).before a0 Z = true) (hfa : ((Cond.interfaceMethod xi.cls xi.cls xi.name xi.desc).onTables && (Cond.interfaceMethod xi.cls xi.cls xi.name xi.desc).keepsFace) = true) (hy : xi.cls ≠ "java/lang/invoke/MethodHandle" ∧ xi.cls ≠ "java/lang/invoke/VarHandle")
    (E : Exa Z h a Cl) (M : BK l R p e below s args y 5 W (.ref a :: argsL).toArray h ck sk n0 Q) (hc : k + ck ≤ R.cells) (hs : n + sk ≤ R.slots) (hsz : Ls.size = ml) (hlen : ∀ sig, parseMethodDescriptor xi.desc = some sig → argsL.length = sig.parameters.length) (hst : st = argsL.reverse ++ .ref a :: rest) (hW : (rest.map fun v => v.category).sum = W) (hq : pc + 5 = q)
    (K : ∀ v h', Q v h' → ∃ st', st' = v.toList ++ rest ∧ Go p l e R s m args below meth c Ph n0 h' (k + ck) (n + sk) q Ls st') : Go p l e R s m args below meth c Ph n0 h k n pc Ls st := fun T locs X N eT => by
  have hZ := C.2.2.2.2.1
  obtain ⟨cq, kq, qa, qb, qc⟩ := isOf hZ eT E
  obtain ⟨v, vm1, ⟨T', L', k', n'⟩, -, X', ⟨L, ⟨hQ, NL⟩, l1, l2, l3⟩, stp⟩ := X.interfaceBack C.1 (xi := xi) (y := y) C.2.2.2.1 (mvT hZ w1) (mvT hZ w2) (mvT hZ w3 hfa) (mvT hZ w5) (mvT hZ w6) (mvT hZ w7) (mvT hZ w8) (mvT hZ w9) hy M qa qb qc (g := mkF m pc Ls st) rfl (hsz.trans C.2.2.1.symm) (Steps.refl _) (argsL := argsL) (rest := rest) hlen hst (by show 2 * 0 + _ ≤ _; rw [hW]; omega) (hb C.2.1 d) (fun _ _ => ⟨rfl, eT, hc, hs⟩)
  dsimp only [Pt.U, Pt.locs, Pt.cells, Pt.slots] at X' l1 l2 l3 stp
  subst l1 l2 l3
  obtain ⟨st', hst', K'⟩ := K v _ hQ
  obtain ⟨s₂, v', S, r⟩ := K' _ _ X' (N.app NL) rfl
  exact ⟨s₂, v', stp.trans (by subst hq hst'; exact S), r⟩
theorem nf_of {y : MethodName} {Cl : String} (C : Cx p s m meth c Z own nm code ml ret) (w : (Cond.selects Cl y y).before a0 Z = true) : NotFace s y := notFace_of_selects (args := #[]) (mvT C.2.2.2.2.1 w)
theorem priv_of {y : MethodName} (C : Cx p s m meth c Z own nm code ml ret) (w : (Cond.privateMethod y).before a0 Z = true) : s.PrivateAt y := Cond.privateMethod_at (args := #[]) (mvP C.2.2.2.2.1 w)
theorem Av.arv {a : Addr} {ty : FieldType} {N : Nat} {f : Nat → Value} {vs : List Value} {dv : Value} (A : Av Z h a ty N f) (hf : ∀ j, j < N → f j = vs.getD j dv) (hfit : ∀ j, j < N → fits ty (vs.getD j dv) = true) : ∃ kA, Arv Z h a kA ty (Int32.ofNat N) vs dv := by
  obtain ⟨c', A, r1, r2, r3⟩ := A
  have e : (Int32.ofNat N).toNatClampNeg = N := Int32.toNatClampNeg_ofNat_of_lt r2
  refine ⟨c'.cls, c', A, rfl, by rw [e]; exact r1, ?_, fun j hj => by rw [r3 j (r1 ▸ hj), hf j (r1 ▸ hj)], fun j hj => hfit j (r1 ▸ hj)⟩
  intro q
  have := Int32.lt_iff_toInt_lt.mp q
  rw [Int32.toInt_ofNat_of_lt r2] at this
  simp at this
  omega
theorem app_less {ws : List Cond} {c0 : Cond} {rm : Room} {y : MethodName} {pl : Platform} {sa : State} {ma : MethodId} {aa : Array Value} {ba : List Frame} (hf : sa.frames = .invoking ma aa :: ba) (hh : (head1 (c0 :: ws) rm).appliesLoose y pl sa = true) : (head1 [c0] rm).appliesLoose y pl sa = true := by
  obtain ⟨h1, h2, h3, h4, h5, h6, h7, h8⟩ := (Spec.appliesLoose_iff hf).mp hh
  refine (Spec.appliesLoose_iff hf).mpr ⟨h1, h2, h3, h4, h5, h6, h7, ?_⟩
  show (Cond.and c0 .tt).before aa sa = true
  rw [Cond.before_and, atoms_spec (ws := c0 :: ws) h8 c0 (List.mem_cons_self ..)]; rfl
theorem own_cat {v : Value} (hr : v.isRef = true) : v.category = 1 := by rcases ref_cases hr with rfl | ⟨a, rfl⟩ <;> rfl
theorem own_nar {v : Value} {cn : String} (hr : v.isRef = true) : narrow (.object cn) v = v := by rcases ref_cases hr with rfl | ⟨a, rfl⟩ <;> rfl
theorem own_fit {v : Value} {cn : String} (hr : v.isRef = true) : fits (.object cn) v = true := by rcases ref_cases hr with rfl | ⟨a, rfl⟩ <;> rfl
theorem Ext.keep {h0 h h' : Heap} {ws : List Addr} (E : Ext h0 h) (K : Keep h h' ws) (q : ∀ x ∈ ws, h0.size ≤ x) : Ext h0 h' := ⟨Nat.le_trans E.1 K.1, fun a c hc => K.2.1 a c (E.2 a c hc) fun hm => Nat.not_lt.mpr (q a hm) (Array.getElem?_eq_some_iff.mp hc).1⟩
theorem Ext.wr {h0 h h' : Heap} {a : Addr} {sl : Nat} {v : Value} (E : Ext h0 h) (W : Wr h h' a sl v) (q : h0.size ≤ a) : Ext h0 h' := Ext.keep E (Keep.of_wr W) fun x hx => by cases List.mem_singleton.mp hx; exact q
theorem Ext.tr {h0 h h' : Heap} (E : Ext h0 h) (E' : Ext h h') : Ext h0 h' := ⟨Nat.le_trans E.1 E'.1, fun a c hc => E'.2 a c (E.2 a c hc)⟩
theorem Ext.rfl' (h : Heap) : Ext h h := ⟨Nat.le_refl _, fun _ _ q => q⟩
theorem Ext.kp {h h' : Heap} (E : Ext h h') (ws : List Addr) : Keep h h' ws := (Keep.refl h ws).ext E
end GoRules
/-! ## The wide walk: literals may be loaded (the tables' interned strings grow); the Stand is over s0 with the tables of the moment -/
section GoWide
variable {p : Program} {l : Launch} {e : Env} {R : Room} {s0 : State} {vm0 : Vm} {m : MethodId} {args : Array Value} {below : List Frame} {meth : Method} {c : Code} {Ph : State → Option Value → Prop} {n0 : Nat} {h : Heap} {k n : Nat} {pc q : Nat} {Ls : Array Slot} {st rest : List Value} {Z : State} {a0 : Array Value} {own nm : String} {code : ByteArray} {ml : Nat} {ret : Option FieldType}
def Sn (s0 : State) (vm0 : Vm) (h : Heap) : Prop := ∃ k0, s0.Since vm0 k0 ∧ k0 ≤ h.size
theorem Sn.mono {h' : Heap} (S : Sn s0 vm0 h) (q : h.size ≤ h'.size) : Sn s0 vm0 h' := by obtain ⟨k0, h1, h2⟩ := S; exact ⟨k0, h1, Nat.le_trans h2 q⟩
theorem IB.warm {vm1 : Vm} {Ts : List String} (I : IB Z vm0 Ts) (hW : (s0.setVm vm0).WarmedH vm1) : IB Z vm1 Ts := by
  obtain ⟨more, e, hm⟩ := I
  exact ⟨more, (hW.interned_eq).trans e, hm⟩
def CtrW (l : Launch) (Z : State) (y : MethodName) (bytes : ByteArray) (maxL : Nat) (rt : Option FieldType) (rm : Room) (as' : Array Value) (hs : Heap) (nf : Nat) (P : Vm → Prop) (Q : Option Value → Vm → Heap → Prop) : Prop :=
  MetFree l y (head1 [Cond.code y bytes maxL rt] rm) (fun a U => a = as' ∧ Z.Warmed39 U.vm ∧ U.heap = hs ∧ P U.vm) (fun _ _ _ _ _ => True) (fun _ U o U' => ∃ v L, o = .returned v ∧ (Q v U'.vm U'.heap ∧ Fr nf L) ∧ ReturnedEndW U o U' L rm.cells rm.slots)
def FinW (s0 : State) (below : List Frame) (rm : Room) (nf : Nat) (Q : Option Value → Vm → Heap → Prop) : State → Option Value → Prop :=
  fun s₂ v => s₂.status = .running ∧ Ended s₂ below (.returned v) ∧ ∃ L, (Q v s₂.vm s₂.heap ∧ Fr nf L) ∧ ReturnedEndW s0 (.returned v) s₂ L rm.cells rm.slots
theorem CtrW.of {l : Launch} {Z : State} {y : MethodName} {bytes : ByteArray} {maxL : Nat} {rt : Option FieldType} {rm : Room} {as' : Array Value} {hs : Heap} {nf : Nat} {P : Vm → Prop} {Q : Option Value → Vm → Heap → Prop} {n1 : Nat} (Ls : Array Slot) (hp : plainFor y = true) (hE : ∀ m, entryFrame m as' maxL = mkF m 0 Ls [])
    (B : ∀ (p : Program) (e : Env) (s0 : State) (vm0 : Vm) (m : MethodId) (below : List Frame) (meth : Method) (c : Code), Cx p (s0.setVm vm0) m meth c Z y.cls y.name bytes maxL rt → s0.heap = hs → P vm0 → Sn s0 vm0 hs → Go p l e rm (s0.setVm vm0) m as' below meth c (FinW s0 below rm nf Q) n1 hs 0 0 0 Ls []) : CtrW l Z y bytes maxL rt rm as' hs nf P Q := by
  refine MetFree.of_bodySF hp hisR ?_
  intro p e s m args below meth c s₁ Bd hml0 hP hK
  obtain ⟨rfl, hZ, hh, hPv⟩ := hP
  have X0 : Stand p l e rm s m _ below meth c s₁ [] 0 0 := Stand.of_body Bd
  have e0 : s₁.heap = hs := by rw [← hh, Bd.state]; rfl
  have S0 : Sn s s.vm hs := ⟨s.heap.size, (State.WarmedH.refl s).since _, by rw [hh]; exact Nat.le_refl _⟩
  obtain ⟨s₂, v, S, r1, r2, L, r3, r4⟩ := B p e s s.vm m below meth c ⟨Bd.exec, Bd.bytes, hml0, findClass_of_methodNamed Bd.named, hZ, (name_of_methodNamed Bd.named Bd.method).1, Bd.returns, Bd.notSynchronized⟩ hh hPv S0 s₁ [] X0 (Fr.nil _) e0
  exact ⟨s₂, _, castTop (hE m) S, r1, r2, v, L, rfl, r3, r4⟩
theorem finW_of {T : State} {locs : List Loc} {rm : Room} {nf : Nat} {Q : Option Value → Vm → Heap → Prop} {v : Option Value} {st' : List Value} (C : Cx p (s0.setVm vm0) m meth c Z own nm code ml ret) (Sw : Sn s0 vm0 h) (X : Stand p l e R (s0.setVm vm0) m args below meth c T locs k n) (N : Fr n0 locs) (eT : T.heap = h) (hv : ret = none → v = none) (hn : nf ≤ n0) (hk : k ≤ rm.cells) (hl : n ≤ rm.slots) (hQ : ∀ vm1, (s0.setVm vm0).WarmedH vm1 → Q v vm1 h)
    (H : ∀ fs, (∀ (f : JFrame) (acts : List Action), f.method = m → f.locked = none → f.entered = [] → (doReturn e (T.setTop f) acts v).1 = T.setFrames fs) → Steps p.tables e below (T.setTop (mkF m pc Ls st')) (T.setFrames fs)) :
    ∃ s₂ v, Steps p.tables e below (T.setTop (mkF m pc Ls st')) s₂ ∧ FinW s0 below rm nf Q s₂ v := by
  obtain ⟨k0, hS, hk0⟩ := Sw
  obtain ⟨fs, hr, hrun, hended, h1, h2, h3, hsame⟩ := X.leaveW (v := v) hS (by rw [eT]; exact hk0) (fun hh => hv (C.2.2.2.2.2.2.1.symm.trans hh)) C.2.2.2.2.2.2.2
  exact ⟨_, v, H fs hr, hrun, hended, locs, ⟨by rw [show (T.setFrames fs).heap = h from eT]; exact hQ _ X.warmed, fun y hy => Nat.le_trans hn (N y hy)⟩, h1, h2, h3, hsame.mono hk hl⟩
theorem g_returnW {rm : Room} {nf : Nat} {Q : Option Value → Vm → Heap → Prop} (C : Cx p (s0.setVm vm0) m meth c Z own nm code ml none) (Sw : Sn s0 vm0 h) (d : decode code pc = .ok (.return_, 1)) (hn : nf ≤ n0) (hk : k ≤ rm.cells) (hl : n ≤ rm.slots) (hQ : ∀ vm1, (s0.setVm vm0).WarmedH vm1 → Q none vm1 h) : Go p l e R (s0.setVm vm0) m args below meth c (FinW s0 below rm nf Q) n0 h k n pc Ls [] :=
  fun T locs X N eT => finW_of C Sw X N eT (fun _ => rfl) hn hk hl hQ fun fs hr => X.returnOut C.1 C.2.2.2.2.2.2.1 (hb C.2.1 d) hr
theorem g_ireturnW {rm : Room} {nf : Nat} {Q : Option Value → Vm → Heap → Prop} {x : Int32} (C : Cx p (s0.setVm vm0) m meth c Z own nm code ml (some .int)) (Sw : Sn s0 vm0 h) (d : decode code pc = .ok (.ireturn, 1)) (hn : nf ≤ n0) (hk : k ≤ rm.cells) (hl : n ≤ rm.slots) (hQ : ∀ vm1, (s0.setVm vm0).WarmedH vm1 → Q (some (.int x)) vm1 h) : Go p l e R (s0.setVm vm0) m args below meth c (FinW s0 below rm nf Q) n0 h k n pc Ls (.int x :: st) :=
  fun T locs X N eT => finW_of C Sw X N eT (fun hh => nomatch hh) hn hk hl hQ fun fs hr => retI X C.1 C.2.2.2.2.2.2.1 (hb C.2.1 d) hr
theorem g_nreturnW {rm : Room} {nf : Nat} {Q : Option Value → Vm → Heap → Prop} {x z : Int32} {t : FieldType} (C : Cx p (s0.setVm vm0) m meth c Z own nm code ml (some t)) (Sw : Sn s0 vm0 h) (d : decode code pc = .ok (.ireturn, 1)) (ht : t = .boolean ∨ t = .byte ∨ t = .char ∨ t = .short) (hz : nar t x = z) (hn : nf ≤ n0) (hk : k ≤ rm.cells) (hl : n ≤ rm.slots) (hQ : ∀ vm1, (s0.setVm vm0).WarmedH vm1 → Q (some (.int z)) vm1 h) : Go p l e R (s0.setVm vm0) m args below meth c (FinW s0 below rm nf Q) n0 h k n pc Ls (.int x :: st) :=
  fun T locs X N eT => finW_of (v := some (.int z)) C Sw X N eT (fun hh => nomatch hh) hn hk hl hQ fun fs hr => retN X C.1 C.2.2.2.2.2.2.1 ht (hb C.2.1 d) (by rw [hz]; exact hr)
theorem g_areturnW {rm : Room} {nf : Nat} {Q : Option Value → Vm → Heap → Prop} {x : Value} {t : FieldType} (C : Cx p (s0.setVm vm0) m meth c Z own nm code ml (some t)) (Sw : Sn s0 vm0 h) (d : decode code pc = .ok (.areturn, 1)) (ht : t.isReference = true) (hx : x.isRef = true) (hn : nf ≤ n0) (hk : k ≤ rm.cells) (hl : n ≤ rm.slots) (hQ : ∀ vm1, (s0.setVm vm0).WarmedH vm1 → Q (some x) vm1 h) : Go p l e R (s0.setVm vm0) m args below meth c (FinW s0 below rm nf Q) n0 h k n pc Ls (x :: st) :=
  fun T locs X N eT => finW_of C Sw X N eT (fun hh => nomatch hh) hn hk hl hQ fun fs hr => retOut X C.1 C.2.2.2.2.2.2.1 (by rcases ref_cases hx with rfl | ⟨a, rfl⟩ <;> cases t <;> first | rfl | cases ht) (Or.inr (Or.inr (Or.inr (Or.inr ⟨rfl, ht, hx⟩)))) (hb C.2.1 d) hr
theorem g_ldcS (C : Cx p (s0.setVm vm0) m meth c Z own nm code ml ret) {index : Nat} {text : String} {Ts : List String} {vs : List Value} {z : Int32} {nn : Nat} (Sw : Sn s0 vm0 h) (d : decode code pc = .ok (.ldc index, 2)) (w : (Cond.stringLink own index text).before a0 Z = true) (wS : ∀ a ∈ Bundle.stringAtoms, a.before a0 Z = true) (hkeep : ∀ (b : Addr) (cl : Cell), Z.heap[b]? = some cl → s0.heap[b]? = some cl) (hn0 : s0.heap.size ≤ n0) (I : IB Z vm0 Ts) (hnot : text ∉ Ts) (hh : Jvm.Lit.constHeld Z own index) (hcw : Jvm.Lit.compactW.before a0 Z = true)
    (ht : (∀ c ∈ text.toList, c.toNat < 256) ∧ text.toList.map (fun c => Value.int (Jvm.Lit.byteI c.toNat.toUInt16)) = vs) (hz : ¬ z < 0) (hzl : z.toNatClampNeg = vs.length) (hn : 4 * text.toList.length ≤ nn) (hbig : nn ≤ 536870912) (hc : k + 2 ≤ R.cells) (hl : n + (nn + 4) ≤ R.slots) (hq : pc + 2 = q)
    (K : ∀ (a : Addr) (vm1 : Vm) (h' : Heap) (b : Addr) (kb : ClassId), Ext h h' → Cx p (s0.setVm vm1) m meth c Z own nm code ml ret → Sn s0 vm1 h' → IB Z vm1 (text :: Ts) → Lit (s0.setVm vm1) own index a → Exa Z h' a "java/lang/String" → Fld Z h' a "java/lang/String" "coder" "B" (.int 0) → Fld Z h' a "java/lang/String" "value" "[B" (.ref b) → Arv Z h' b kb .byte z vs (.int 0) → Go p l e R (s0.setVm vm1) m args below meth c Ph n0 h' (k + 2) (n + (nn + 4)) q Ls (.ref a :: st)) : Go p l e R (s0.setVm vm0) m args below meth c Ph n0 h k n pc Ls st := fun T locs X N eT => by
  obtain ⟨k0, hS, hk0⟩ := Sw
  obtain ⟨a, T', h', k1, b, kb, X', e', E, hS', hk1, hZ', hown', E1, F1, F2, A1, -, -, I', L', stp⟩ := ldcSVL X C.1 C.2.2.2.2.1 C.2.2.2.1 w wS eT hS hk0 (fun y hy => Nat.le_trans hn0 (N y hy)) hkeep I hnot hh hcw ht hz hzl (g := mkF m pc Ls st) rfl (hb C.2.1 d) hn hbig hc hl
  obtain ⟨s₂, v, S, r⟩ := K a T'.vm h' b kb E ⟨C.1, C.2.1, C.2.2.1, hown', hZ', C.2.2.2.2.2⟩ ⟨k1, hS', hk1⟩ I' L' E1 F1 F2 A1 T' locs X' N e'
  exact ⟨s₂, v, stp _ (by subst hq; exact S), r⟩
theorem g_ldcA (C : Cx p (s0.setVm vm0) m meth c Z own nm code ml ret) {index : Nat} {text : String} {a : Addr} (d : decode code pc = .ok (.ldc index, 2)) (w : (Cond.stringLink own index text).before a0 Z = true) (Lt : Lit (s0.setVm vm0) own index a) (hq : pc + 2 = q) (K : Go p l e R (s0.setVm vm0) m args below meth c Ph n0 h k n q Ls (.ref a :: st)) : Go p l e R (s0.setVm vm0) m args below meth c Ph n0 h k n pc Ls st := fun T locs X N eT => by
  obtain ⟨s₂, v, S, r⟩ := K T locs X N eT
  exact ⟨s₂, v, ldcAgain X C.1 C.2.2.2.2.1 C.2.2.2.1 w Lt (g := mkF m pc Ls st) rfl (hb C.2.1 d) _ (by subst hq; exact S), r⟩
theorem backOfW {s : State} {y : MethodName} {bytes : ByteArray} {maxL : Nat} {rt : Option FieldType} {rm : Room} {len W : Nat} {as' : Array Value} {P : Vm → Prop} {Q : Option Value → Vm → Heap → Prop} {nf : Nat}
    (hM : CtrW l Z y bytes maxL rt rm as' h nf P Q) (hZ : Z.Warmed39 s.vm) (wc : (Cond.code y bytes maxL rt).before a0 Z = true) (wz : (Cond.initialized y.cls).before a0 Z = true) (hf : rm.frames + 1 ≤ R.frames) (hl : W + (maxL + 11) + rm.locals ≤ R.locals) :
    BackS l R p e below s args y len W (fun A a => a = as' ∧ A.U.heap = h ∧ P A.U.vm ∧ A.cells + rm.cells ≤ R.cells ∧ A.slots + rm.slots ≤ R.slots)
      (fun A _ v B => ∃ L, (Q v B.U.vm B.U.heap ∧ Fr nf L) ∧ B.locs = A.locs ++ L ∧ B.cells = A.cells + rm.cells ∧ B.slots = A.slots + rm.slots) :=
  BackS.of_freeW (bytes := bytes) (maxL := maxL) (ret := rt) (E := fun _ _ o t L k n => k = rm.cells ∧ n = rm.slots ∧ ∃ v, o = .returned v ∧ (Q v t.vm t.heap ∧ Fr nf L)) hM hf hl
    (fun m meth c A a Y hp => have hU : Z.Warmed39 A.U.vm := wtrans hZ Y.warmed
      ⟨by show (Cond.and _ .tt).before a A.U = true; rw [Cond.before_and, mv hU wc]; rfl, mv hU wc, mv hU wz, hp.2.2.2.1, hp.2.2.2.2⟩)
    (fun m meth c A a g mk Y hp => ⟨hp.1, wtrans hZ Y.warmed, hp.2.1, hp.2.2.1⟩) (fun _ _ _ _ _ _ _ _ _ => trivial)
    (fun _ _ _ _ ⟨v, L, h1, h2, h3⟩ => ⟨L, _, _, h3, rfl, rfl, v, h1, h2⟩)
    (fun m meth c A a g mk v t L k n Y hp _ _ ⟨e1, e2, v', e3, e4⟩ => by cases e3; subst e1 e2; exact ⟨L, e4, rfl, rfl, rfl⟩)
theorem g_callSW (C : Cx p (s0.setVm vm0) m meth c Z own nm code ml ret) {y : MethodName} {bytes : ByteArray} {maxL : Nat} {rt : Option FieldType} {rm : Room} {P : Vm → Prop} {Q : Option Value → Vm → Heap → Prop} {index W : Nat} {argsL : List Value} (Sw : Sn s0 vm0 h) (d : decode code pc = .ok (.invokestatic index, 3)) (w1 : (Cond.methodLink own index y).before a0 Z = true) (w2 : (Cond.static y).before a0 Z = true) (w3 : (Cond.initialized y.cls).before a0 Z = true) (w4 : (Cond.code y bytes maxL rt).before a0 Z = true) (hy : y.cls ≠ "java/lang/invoke/MethodHandle" ∧ y.cls ≠ "java/lang/invoke/VarHandle")
    (M : CtrW l Z y bytes maxL rt rm argsL.toArray h n0 P Q) (hf : rm.frames + 1 ≤ R.frames) (hl : W + (maxL + 11) + rm.locals ≤ R.locals) (hc : k + rm.cells ≤ R.cells) (hs : n + rm.slots ≤ R.slots) (hsz : Ls.size = ml) (hlen : ∀ sig, parseMethodDescriptor y.desc = some sig → argsL.length = sig.parameters.length) (hst : st = argsL.reverse ++ rest) (hW : (rest.map fun v => v.category).sum = W) (hq : pc + 3 = q)
    (hP : ∀ vm1, (s0.setVm vm0).WarmedH vm1 → P vm1) (K : ∀ v vm1 h', Q v vm1 h' → Cx p (s0.setVm vm1) m meth c Z own nm code ml ret → Sn s0 vm1 h' → (s0.setVm vm0).Warmed39 vm1 → ∃ st', st' = v.toList ++ rest ∧ Go p l e R (s0.setVm vm1) m args below meth c Ph n0 h' (k + rm.cells) (n + rm.slots) q Ls st') : Go p l e R (s0.setVm vm0) m args below meth c Ph n0 h k n pc Ls st := fun T locs X N eT => by
  have hZ := C.2.2.2.2.1
  obtain ⟨v, vm1, ⟨T', L', k', n'⟩, -, X', hS1, hle, ⟨L, ⟨hQ, NL⟩, l1, l2, l3⟩, stp⟩ := callSS X C.1 (y := y) C.2.2.2.1 (mvT hZ w1) (mvT hZ w2) (mvT hZ w3) (mvT hZ w4) hy (backOfW (W := W) M hZ w4 w3 hf hl) (g := mkF m pc Ls st) rfl (hsz.trans C.2.2.1.symm) (argsL := argsL) (rest := rest) hlen hst (by show 2 * 0 + _ ≤ _; rw [hW]; omega) (hb C.2.1 d) (fun vm1 hW1 => ⟨rfl, eT, hP vm1 hW1, hc, hs⟩)
  dsimp only [Pt.U, Pt.locs, Pt.cells, Pt.slots] at X' hS1 hle l1 l2 l3 stp
  subst l1 l2 l3
  obtain ⟨k0, hS, hk0⟩ := Sw
  have hZ1 : Z.Warmed39 T'.vm := State.Warmed39.trans (t := s0.setVm vm0) hZ hS1.1
  obtain ⟨st', hst', K'⟩ := K v _ _ hQ ⟨C.1, C.2.1, C.2.2.1, by rw [show (s0.setVm T'.vm).vm = T'.vm from rfl, hS1.1.alike.findClass]; exact C.2.2.2.1, hZ1, C.2.2.2.2.2⟩ ⟨_, foldS (T := T) hS (by rw [eT]; exact hk0) hS1 hle, Nat.le_refl _⟩ hS1.1
  obtain ⟨s₂, v', S, r⟩ := K' _ _ X' (N.app NL) rfl
  exact ⟨s₂, v', stp.trans (by subst hq hst'; exact S), r⟩
theorem g_callIW (C : Cx p (s0.setVm vm0) m meth c Z own nm code ml ret) {y : MethodName} {bytes : ByteArray} {maxL : Nat} {rm : Room} {P : Vm → Prop} {Q : Option Value → Vm → Heap → Prop} {index W : Nat} {argsL : List Value} {a : Addr} (Sw : Sn s0 vm0 h) (d : decode code pc = .ok (.invokespecial index, 3)) (hy1 : y.name = "<init>") (w1 : (Cond.methodLink own index y).before a0 Z = true) (w2 : (Cond.instanceMethod y).before a0 Z = true) (w3 : (Cond.initialized y.cls).before a0 Z = true) (w4 : (Cond.code y bytes maxL none).before a0 Z = true) (hy : y.cls ≠ "java/lang/invoke/MethodHandle" ∧ y.cls ≠ "java/lang/invoke/VarHandle")
    (M : CtrW l Z y bytes maxL none rm (.ref a :: argsL).toArray h n0 P Q) (hf : rm.frames + 1 ≤ R.frames) (hl : W + (maxL + 11) + rm.locals ≤ R.locals) (hc : k + rm.cells ≤ R.cells) (hs : n + rm.slots ≤ R.slots) (hsz : Ls.size = ml) (hlen : ∀ sig, parseMethodDescriptor y.desc = some sig → argsL.length = sig.parameters.length) (hst : st = argsL.reverse ++ .ref a :: rest) (hW : (rest.map fun v => v.category).sum = W) (hq : pc + 3 = q)
    (hP : ∀ vm1, (s0.setVm vm0).WarmedH vm1 → P vm1) (K : ∀ v vm1 h', Q v vm1 h' → Cx p (s0.setVm vm1) m meth c Z own nm code ml ret → Sn s0 vm1 h' → (s0.setVm vm0).Warmed39 vm1 → ∃ st', st' = v.toList ++ rest ∧ Go p l e R (s0.setVm vm1) m args below meth c Ph n0 h' (k + rm.cells) (n + rm.slots) q Ls st') : Go p l e R (s0.setVm vm0) m args below meth c Ph n0 h k n pc Ls st := fun T locs X N eT => by
  have hZ := C.2.2.2.2.1
  obtain ⟨v, vm1, ⟨T', L', k', n'⟩, -, X', hS1, hle, ⟨L, ⟨hQ, NL⟩, l1, l2, l3⟩, stp⟩ := X.specialBackS C.1 (y := y) hy1 C.2.2.2.1 (mvT hZ w1) (mvT hZ w2) (mvT hZ w4) hy (backOfW (W := W) M hZ w4 w3 hf hl) (g := mkF m pc Ls st) rfl (hsz.trans C.2.2.1.symm) (Steps.refl _) (a := a) (argsL := argsL) (rest := rest) hlen hst (by show 2 * 0 + _ ≤ _; rw [hW]; omega) (hb C.2.1 d) (fun vm1 hW1 => ⟨rfl, eT, hP vm1 hW1, hc, hs⟩)
  dsimp only [Pt.U, Pt.locs, Pt.cells, Pt.slots] at X' hS1 hle l1 l2 l3 stp
  subst l1 l2 l3
  obtain ⟨k0, hS, hk0⟩ := Sw
  have hZ1 : Z.Warmed39 T'.vm := State.Warmed39.trans (t := s0.setVm vm0) hZ hS1.1
  obtain ⟨st', hst', K'⟩ := K v _ _ hQ ⟨C.1, C.2.1, C.2.2.1, by rw [show (s0.setVm T'.vm).vm = T'.vm from rfl, hS1.1.alike.findClass]; exact C.2.2.2.1, hZ1, C.2.2.2.2.2⟩ ⟨_, foldS (T := T) hS (by rw [eT]; exact hk0) hS1 hle, Nat.le_refl _⟩ hS1.1
  obtain ⟨s₂, v', S, r⟩ := K' _ _ X' (N.app NL) rfl
  exact ⟨s₂, v', stp.trans (by subst hq hst'; exact S), r⟩
theorem g_callVW (C : Cx p (s0.setVm vm0) m meth c Z own nm code ml ret) {y : MethodName} {bytes : ByteArray} {maxL : Nat} {rt : Option FieldType} {rm : Room} {P : Vm → Prop} {Q : Option Value → Vm → Heap → Prop} {index W : Nat} {argsL : List Value} {y0 : MethodName} {Cl : String} {a : Addr} (Sw : Sn s0 vm0 h) (d : decode code pc = .ok (.invokevirtual index, 3)) (w1 : (Cond.methodLink own index y0).before a0 Z = true) (w2 : (Cond.declares y0).before a0 Z = true) (w5 : (Cond.selects Cl y0 y).before a0 Z = true) (w6 : (Cond.instanceMethod y).before a0 Z = true) (w3 : (Cond.initialized y.cls).before a0 Z = true) (w4 : (Cond.code y bytes maxL rt).before a0 Z = true) (hy : y0.cls ≠ "java/lang/invoke/MethodHandle" ∧ y0.cls ≠ "java/lang/invoke/VarHandle") (hnf : NotFace (s0.setVm vm0) y0)
    (E : Exa Z h a Cl) (M : CtrW l Z y bytes maxL rt rm (.ref a :: argsL).toArray h n0 P Q) (hf : rm.frames + 1 ≤ R.frames) (hl : W + (maxL + 11) + rm.locals ≤ R.locals) (hc : k + rm.cells ≤ R.cells) (hs : n + rm.slots ≤ R.slots) (hsz : Ls.size = ml) (hlen : ∀ sig, parseMethodDescriptor y0.desc = some sig → argsL.length = sig.parameters.length) (hst : st = argsL.reverse ++ .ref a :: rest) (hW : (rest.map fun v => v.category).sum = W) (hq : pc + 3 = q)
    (hP : ∀ vm1, (s0.setVm vm0).WarmedH vm1 → P vm1) (K : ∀ v vm1 h', Q v vm1 h' → Cx p (s0.setVm vm1) m meth c Z own nm code ml ret → Sn s0 vm1 h' → (s0.setVm vm0).Warmed39 vm1 → ∃ st', st' = v.toList ++ rest ∧ Go p l e R (s0.setVm vm1) m args below meth c Ph n0 h' (k + rm.cells) (n + rm.slots) q Ls st') : Go p l e R (s0.setVm vm0) m args below meth c Ph n0 h k n pc Ls st := fun T locs X N eT => by
  have hZ := C.2.2.2.2.1
  obtain ⟨cq, kq, qa, qb, qc⟩ := isOf hZ eT E
  obtain ⟨v, vm1, ⟨T', L', k', n'⟩, -, X', hS1, hle, ⟨L, ⟨hQ, NL⟩, l1, l2, l3⟩, stp⟩ := X.virtualBackS C.1 (y := y0) (z := y) C.2.2.2.1 (mvT hZ w1) (mvT hZ w2) hnf (mvT hZ w5) (mvT hZ w6) hy (backOfW (W := W) M hZ w4 w3 hf hl) qa qc (g := mkF m pc Ls st) rfl (hsz.trans C.2.2.1.symm) (Steps.refl _) (argsL := argsL) (rest := rest) hlen hst (by show 2 * 0 + _ ≤ _; rw [hW]; omega) (hb C.2.1 d) (fun vm1 hW1 => ⟨rfl, eT, hP vm1 hW1, hc, hs⟩)
  dsimp only [Pt.U, Pt.locs, Pt.cells, Pt.slots] at X' hS1 hle l1 l2 l3 stp
  subst l1 l2 l3
  obtain ⟨k0, hS, hk0⟩ := Sw
  have hZ1 : Z.Warmed39 T'.vm := State.Warmed39.trans (t := s0.setVm vm0) hZ hS1.1
  obtain ⟨st', hst', K'⟩ := K v _ _ hQ ⟨C.1, C.2.1, C.2.2.1, by rw [show (s0.setVm T'.vm).vm = T'.vm from rfl, hS1.1.alike.findClass]; exact C.2.2.2.1, hZ1, C.2.2.2.2.2⟩ ⟨_, foldS (T := T) hS (by rw [eT]; exact hk0) hS1 hle, Nat.le_refl _⟩ hS1.1
  obtain ⟨s₂, v', S, r⟩ := K' _ _ X' (N.app NL) rfl
  exact ⟨s₂, v', stp.trans (by subst hq hst'; exact S), r⟩
end GoWide
end Jvm.Pilot.@@N@@

namespace Jvm.Pilot.@@N@@
open Jvm Jvm.ClassFile Sem Op Lib Jvm.Free Jvm.Stand Jvm.LawKit Jvm.RoadKit Bundle Jvm.Pilot.@@N@@.Jvm.D
theorem wd0 {Z : State} {a0 : Array Value} (hw : ∀ d ∈ tables_1, d.before a0 Z = true) : (Jvm.Cond.methodLink "com/example/notice_to_drain/noticetodrain/drain/HookOutcomeUnknownPinLaw" (7 : Nat) ({ cls := "com/example/notice_to_drain/noticetodrain/drain/HookOutcomeUnknownPinLaw", name := "pick", desc := "(ICCC)Ljava/lang/String;" } : Jvm.MethodName)).before a0 Z = true := hw _ (List.mem_of_getElem? (i := 0) rfl)
theorem wd1 {Z : State} {a0 : Array Value} (hw : ∀ d ∈ tables_1, d.before a0 Z = true) : (Jvm.Cond.static ({ cls := "com/example/notice_to_drain/noticetodrain/drain/HookOutcomeUnknownPinLaw", name := "pick", desc := "(ICCC)Ljava/lang/String;" } : Jvm.MethodName)).before a0 Z = true := hw _ (List.mem_of_getElem? (i := 1) rfl)
theorem wd2 {Z : State} {a0 : Array Value} (hw : ∀ d ∈ tables_1, d.before a0 Z = true) : (Jvm.Cond.initialized "com/example/notice_to_drain/noticetodrain/drain/HookOutcomeUnknownPinLaw").before a0 Z = true := hw _ (List.mem_of_getElem? (i := 2) rfl)
theorem wd3 {Z : State} {a0 : Array Value} (hw : ∀ d ∈ tables_1, d.before a0 Z = true) : (Jvm.Cond.code ({ cls := "com/example/notice_to_drain/noticetodrain/drain/HookOutcomeUnknownPinLaw", name := "pick", desc := "(ICCC)Ljava/lang/String;" } : Jvm.MethodName) method_3_code (4 : Nat) (Option.some (Jvm.ClassFile.FieldType.object "java/lang/String"))).before a0 Z = true := hw _ (List.mem_of_getElem? (i := 3) rfl)
theorem wd4 {Z : State} {a0 : Array Value} (hw : ∀ d ∈ tables_1, d.before a0 Z = true) : (Jvm.Cond.classLink "com/example/notice_to_drain/noticetodrain/drain/HookOutcomeUnknownPinLaw" (24 : Nat) "java/lang/String").before a0 Z = true := hw _ (List.mem_of_getElem? (i := 4) rfl)
theorem wd5 {Z : State} {a0 : Array Value} (hw : ∀ d ∈ tables_1, d.before a0 Z = true) : (Jvm.Cond.instantiable "java/lang/String" (4 : Nat)).before a0 Z = true := hw _ (List.mem_of_getElem? (i := 5) rfl)
theorem wd6 {Z : State} {a0 : Array Value} (hw : ∀ d ∈ tables_1, d.before a0 Z = true) : (Jvm.Cond.initialized "java/lang/String").before a0 Z = true := hw _ (List.mem_of_getElem? (i := 6) rfl)
theorem wd7 {Z : State} {a0 : Array Value} (hw : ∀ d ∈ tables_1, d.before a0 Z = true) : (Jvm.Cond.arrayClass Jvm.ClassFile.FieldType.char).before a0 Z = true := hw _ (List.mem_of_getElem? (i := 7) rfl)
theorem wd8 {Z : State} {a0 : Array Value} (hw : ∀ d ∈ tables_1, d.before a0 Z = true) : (Jvm.Cond.methodLink "com/example/notice_to_drain/noticetodrain/drain/HookOutcomeUnknownPinLaw" (39 : Nat) ({ cls := "java/lang/String", name := "<init>", desc := "([C)V" } : Jvm.MethodName)).before a0 Z = true := hw _ (List.mem_of_getElem? (i := 8) rfl)
theorem wd9 {Z : State} {a0 : Array Value} (hw : ∀ d ∈ tables_1, d.before a0 Z = true) : (Jvm.Cond.instanceMethod ({ cls := "java/lang/String", name := "<init>", desc := "([C)V" } : Jvm.MethodName)).before a0 Z = true := hw _ (List.mem_of_getElem? (i := 9) rfl)
theorem wd10 {Z : State} {a0 : Array Value} (hw : ∀ d ∈ tables_1, d.before a0 Z = true) : (Jvm.Cond.code ({ cls := "java/lang/String", name := "<init>", desc := "([C)V" } : Jvm.MethodName) jdk_42_method_3_code (2 : Nat) (Option.none : Option Jvm.ClassFile.FieldType)).before a0 Z = true := hw _ (List.mem_of_getElem? (i := 10) rfl)
theorem wd11 {Z : State} {a0 : Array Value} (hw : ∀ d ∈ tables_1, d.before a0 Z = true) : (Jvm.Cond.methodLink "java/lang/String" (27 : Nat) ({ cls := "java/lang/String", name := "<init>", desc := "([CIILjava/lang/Void;)V" } : Jvm.MethodName)).before a0 Z = true := hw _ (List.mem_of_getElem? (i := 11) rfl)
theorem wd12 {Z : State} {a0 : Array Value} (hw : ∀ d ∈ tables_1, d.before a0 Z = true) : (Jvm.Cond.instanceMethod ({ cls := "java/lang/String", name := "<init>", desc := "([CIILjava/lang/Void;)V" } : Jvm.MethodName)).before a0 Z = true := hw _ (List.mem_of_getElem? (i := 12) rfl)
theorem wd14 {Z : State} {a0 : Array Value} (hw : ∀ d ∈ tables_1, d.before a0 Z = true) : (Jvm.Cond.code ({ cls := "java/lang/String", name := "<init>", desc := "([CIILjava/lang/Void;)V" } : Jvm.MethodName) jdk_42_method_149_code (6 : Nat) (Option.none : Option Jvm.ClassFile.FieldType)).before a0 Z = true := hw _ (List.mem_of_getElem? (i := 14) rfl)
theorem wd15 {Z : State} {a0 : Array Value} (hw : ∀ d ∈ tables_1, d.before a0 Z = true) : (Jvm.Cond.methodLink "java/lang/String" (1 : Nat) ({ cls := "java/lang/Object", name := "<init>", desc := "()V" } : Jvm.MethodName)).before a0 Z = true := hw _ (List.mem_of_getElem? (i := 15) rfl)
theorem wd16 {Z : State} {a0 : Array Value} (hw : ∀ d ∈ tables_1, d.before a0 Z = true) : (Jvm.Cond.instanceMethod ({ cls := "java/lang/Object", name := "<init>", desc := "()V" } : Jvm.MethodName)).before a0 Z = true := hw _ (List.mem_of_getElem? (i := 16) rfl)
theorem wd17 {Z : State} {a0 : Array Value} (hw : ∀ d ∈ tables_1, d.before a0 Z = true) : (Jvm.Cond.code ({ cls := "java/lang/Object", name := "<init>", desc := "()V" } : Jvm.MethodName) object_method_1_code (1 : Nat) (Option.none : Option Jvm.ClassFile.FieldType)).before a0 Z = true := hw _ (List.mem_of_getElem? (i := 17) rfl)
theorem wd18 {Z : State} {a0 : Array Value} (hw : ∀ d ∈ tables_1, d.before a0 Z = true) : (Jvm.Cond.stringLink "java/lang/String" (7 : Nat) "").before a0 Z = true := hw _ (List.mem_of_getElem? (i := 18) rfl)
theorem wd20 {Z : State} {a0 : Array Value} (hw : ∀ d ∈ tables_1, d.before a0 Z = true) : (Jvm.Cond.laysFinal "java/lang/String" "java/lang/String" "value" "[B").before a0 Z = true := hw _ (List.mem_of_getElem? (i := 20) rfl)
theorem wd21 {Z : State} {a0 : Array Value} (hw : ∀ d ∈ tables_1, d.before a0 Z = true) : (Jvm.Cond.laysFinal "java/lang/String" "java/lang/String" "coder" "B").before a0 Z = true := hw _ (List.mem_of_getElem? (i := 21) rfl)
theorem wd24 {Z : State} {a0 : Array Value} (hw : ∀ d ∈ tables_1, d.before a0 Z = true) : (Jvm.Cond.fieldLink "java/lang/String" (9 : Nat) "java/lang/String" "value" "[B").before a0 Z = true := hw _ (List.mem_of_getElem? (i := 24) rfl)
theorem wd25 {Z : State} {a0 : Array Value} (hw : ∀ d ∈ tables_1, d.before a0 Z = true) : (Jvm.Cond.fieldLink "java/lang/String" (15 : Nat) "java/lang/String" "coder" "B").before a0 Z = true := hw _ (List.mem_of_getElem? (i := 25) rfl)
theorem wd26 {Z : State} {a0 : Array Value} (hw : ∀ d ∈ tables_1, d.before a0 Z = true) : (Jvm.Cond.methodLink "com/example/notice_to_drain/noticetodrain/drain/HookOutcomeUnknownPinLaw" (13 : Nat) ({ cls := "com/example/notice_to_drain/noticetodrain/drain/HookOutcome", name := "unknown", desc := "(Ljava/lang/String;)Lcom/example/notice_to_drain/noticetodrain/drain/HookOutcome;" } : Jvm.MethodName)).before a0 Z = true := hw _ (List.mem_of_getElem? (i := 26) rfl)
theorem wd27 {Z : State} {a0 : Array Value} (hw : ∀ d ∈ tables_1, d.before a0 Z = true) : (Jvm.Cond.static ({ cls := "com/example/notice_to_drain/noticetodrain/drain/HookOutcome", name := "unknown", desc := "(Ljava/lang/String;)Lcom/example/notice_to_drain/noticetodrain/drain/HookOutcome;" } : Jvm.MethodName)).before a0 Z = true := hw _ (List.mem_of_getElem? (i := 27) rfl)
theorem wd28 {Z : State} {a0 : Array Value} (hw : ∀ d ∈ tables_1, d.before a0 Z = true) : (Jvm.Cond.initialized "com/example/notice_to_drain/noticetodrain/drain/HookOutcome").before a0 Z = true := hw _ (List.mem_of_getElem? (i := 28) rfl)
theorem wd29 {Z : State} {a0 : Array Value} (hw : ∀ d ∈ tables_1, d.before a0 Z = true) : (Jvm.Cond.code ({ cls := "com/example/notice_to_drain/noticetodrain/drain/HookOutcome", name := "unknown", desc := "(Ljava/lang/String;)Lcom/example/notice_to_drain/noticetodrain/drain/HookOutcome;" } : Jvm.MethodName) prog_5_method_5_code (1 : Nat) (Option.some (Jvm.ClassFile.FieldType.object "com/example/notice_to_drain/noticetodrain/drain/HookOutcome"))).before a0 Z = true := hw _ (List.mem_of_getElem? (i := 29) rfl)
theorem wd30 {Z : State} {a0 : Array Value} (hw : ∀ d ∈ tables_1, d.before a0 Z = true) : (Jvm.Cond.classLink "com/example/notice_to_drain/noticetodrain/drain/HookOutcome" (8 : Nat) "com/example/notice_to_drain/noticetodrain/drain/HookOutcome").before a0 Z = true := hw _ (List.mem_of_getElem? (i := 30) rfl)
theorem wd31 {Z : State} {a0 : Array Value} (hw : ∀ d ∈ tables_1, d.before a0 Z = true) : (Jvm.Cond.instantiable "com/example/notice_to_drain/noticetodrain/drain/HookOutcome" (3 : Nat)).before a0 Z = true := hw _ (List.mem_of_getElem? (i := 31) rfl)
theorem wd32 {Z : State} {a0 : Array Value} (hw : ∀ d ∈ tables_1, d.before a0 Z = true) : (Jvm.Cond.fieldLink "com/example/notice_to_drain/noticetodrain/drain/HookOutcome" (41 : Nat) "com/example/notice_to_drain/noticetodrain/drain/HookOutcome$Ending" "UNKNOWN" "Lcom/example/notice_to_drain/noticetodrain/drain/HookOutcome$Ending;").before a0 Z = true := hw _ (List.mem_of_getElem? (i := 32) rfl)
theorem wd33 {Z : State} {a0 : Array Value} (hw : ∀ d ∈ tables_1, d.before a0 Z = true) : (Jvm.Cond.initialized "com/example/notice_to_drain/noticetodrain/drain/HookOutcome$Ending").before a0 Z = true := hw _ (List.mem_of_getElem? (i := 33) rfl)
theorem wd34 {Z : State} {a0 : Array Value} (hw : ∀ d ∈ tables_1, d.before a0 Z = true) : (Jvm.Cond.laysStatic "com/example/notice_to_drain/noticetodrain/drain/HookOutcome$Ending" "UNKNOWN" "Lcom/example/notice_to_drain/noticetodrain/drain/HookOutcome$Ending;").before a0 Z = true := hw _ (List.mem_of_getElem? (i := 34) rfl)
theorem wd35 {Z : State} {a0 : Array Value} (hw : ∀ d ∈ tables_1, d.before a0 Z = true) : (Jvm.Cond.methodLink "com/example/notice_to_drain/noticetodrain/drain/HookOutcome" (32 : Nat) ({ cls := "com/example/notice_to_drain/noticetodrain/drain/HookOutcome", name := "<init>", desc := "(Ljava/lang/String;Lcom/example/notice_to_drain/noticetodrain/drain/HookOutcome$Ending;Ljava/lang/Integer;)V" } : Jvm.MethodName)).before a0 Z = true := hw _ (List.mem_of_getElem? (i := 35) rfl)
theorem wd36 {Z : State} {a0 : Array Value} (hw : ∀ d ∈ tables_1, d.before a0 Z = true) : (Jvm.Cond.instanceMethod ({ cls := "com/example/notice_to_drain/noticetodrain/drain/HookOutcome", name := "<init>", desc := "(Ljava/lang/String;Lcom/example/notice_to_drain/noticetodrain/drain/HookOutcome$Ending;Ljava/lang/Integer;)V" } : Jvm.MethodName)).before a0 Z = true := hw _ (List.mem_of_getElem? (i := 36) rfl)
theorem wd37 {Z : State} {a0 : Array Value} (hw : ∀ d ∈ tables_1, d.before a0 Z = true) : (Jvm.Cond.code ({ cls := "com/example/notice_to_drain/noticetodrain/drain/HookOutcome", name := "<init>", desc := "(Ljava/lang/String;Lcom/example/notice_to_drain/noticetodrain/drain/HookOutcome$Ending;Ljava/lang/Integer;)V" } : Jvm.MethodName) prog_5_method_1_code (4 : Nat) (Option.none : Option Jvm.ClassFile.FieldType)).before a0 Z = true := hw _ (List.mem_of_getElem? (i := 37) rfl)
theorem wd38 {Z : State} {a0 : Array Value} (hw : ∀ d ∈ tables_1, d.before a0 Z = true) : (Jvm.Cond.methodLink "com/example/notice_to_drain/noticetodrain/drain/HookOutcome" (1 : Nat) ({ cls := "java/lang/Object", name := "<init>", desc := "()V" } : Jvm.MethodName)).before a0 Z = true := hw _ (List.mem_of_getElem? (i := 38) rfl)
theorem wd39 {Z : State} {a0 : Array Value} (hw : ∀ d ∈ tables_1, d.before a0 Z = true) : (Jvm.Cond.fieldLink "com/example/notice_to_drain/noticetodrain/drain/HookOutcome" (7 : Nat) "com/example/notice_to_drain/noticetodrain/drain/HookOutcome" "hook" "Ljava/lang/String;").before a0 Z = true := hw _ (List.mem_of_getElem? (i := 39) rfl)
theorem wd40 {Z : State} {a0 : Array Value} (hw : ∀ d ∈ tables_1, d.before a0 Z = true) : (Jvm.Cond.laysFinal "com/example/notice_to_drain/noticetodrain/drain/HookOutcome" "com/example/notice_to_drain/noticetodrain/drain/HookOutcome" "hook" "Ljava/lang/String;").before a0 Z = true := hw _ (List.mem_of_getElem? (i := 40) rfl)
theorem wd41 {Z : State} {a0 : Array Value} (hw : ∀ d ∈ tables_1, d.before a0 Z = true) : (Jvm.Cond.fieldLink "com/example/notice_to_drain/noticetodrain/drain/HookOutcome" (13 : Nat) "com/example/notice_to_drain/noticetodrain/drain/HookOutcome" "ending" "Lcom/example/notice_to_drain/noticetodrain/drain/HookOutcome$Ending;").before a0 Z = true := hw _ (List.mem_of_getElem? (i := 41) rfl)
theorem wd42 {Z : State} {a0 : Array Value} (hw : ∀ d ∈ tables_1, d.before a0 Z = true) : (Jvm.Cond.laysFinal "com/example/notice_to_drain/noticetodrain/drain/HookOutcome" "com/example/notice_to_drain/noticetodrain/drain/HookOutcome" "ending" "Lcom/example/notice_to_drain/noticetodrain/drain/HookOutcome$Ending;").before a0 Z = true := hw _ (List.mem_of_getElem? (i := 42) rfl)
theorem wd43 {Z : State} {a0 : Array Value} (hw : ∀ d ∈ tables_1, d.before a0 Z = true) : (Jvm.Cond.fieldLink "com/example/notice_to_drain/noticetodrain/drain/HookOutcome" (17 : Nat) "com/example/notice_to_drain/noticetodrain/drain/HookOutcome" "exitStatus" "Ljava/lang/Integer;").before a0 Z = true := hw _ (List.mem_of_getElem? (i := 43) rfl)
theorem wd44 {Z : State} {a0 : Array Value} (hw : ∀ d ∈ tables_1, d.before a0 Z = true) : (Jvm.Cond.laysFinal "com/example/notice_to_drain/noticetodrain/drain/HookOutcome" "com/example/notice_to_drain/noticetodrain/drain/HookOutcome" "exitStatus" "Ljava/lang/Integer;").before a0 Z = true := hw _ (List.mem_of_getElem? (i := 44) rfl)
theorem wd45 {Z : State} {a0 : Array Value} (hw : ∀ d ∈ tables_1, d.before a0 Z = true) : (Jvm.Cond.methodLink "com/example/notice_to_drain/noticetodrain/drain/HookOutcomeUnknownPinLaw" (19 : Nat) ({ cls := "com/example/notice_to_drain/noticetodrain/drain/HookOutcome", name := "hook", desc := "()Ljava/lang/String;" } : Jvm.MethodName)).before a0 Z = true := hw _ (List.mem_of_getElem? (i := 45) rfl)
theorem wd46 {Z : State} {a0 : Array Value} (hw : ∀ d ∈ tables_1, d.before a0 Z = true) : (Jvm.Cond.declares ({ cls := "com/example/notice_to_drain/noticetodrain/drain/HookOutcome", name := "hook", desc := "()Ljava/lang/String;" } : Jvm.MethodName)).before a0 Z = true := hw _ (List.mem_of_getElem? (i := 46) rfl)
theorem wd47 {Z : State} {a0 : Array Value} (hw : ∀ d ∈ tables_1, d.before a0 Z = true) : (Jvm.Cond.instanceMethod ({ cls := "com/example/notice_to_drain/noticetodrain/drain/HookOutcome", name := "hook", desc := "()Ljava/lang/String;" } : Jvm.MethodName)).before a0 Z = true := hw _ (List.mem_of_getElem? (i := 47) rfl)
theorem wd48 {Z : State} {a0 : Array Value} (hw : ∀ d ∈ tables_1, d.before a0 Z = true) : (Jvm.Cond.selects "com/example/notice_to_drain/noticetodrain/drain/HookOutcome" ({ cls := "com/example/notice_to_drain/noticetodrain/drain/HookOutcome", name := "hook", desc := "()Ljava/lang/String;" } : Jvm.MethodName) ({ cls := "com/example/notice_to_drain/noticetodrain/drain/HookOutcome", name := "hook", desc := "()Ljava/lang/String;" } : Jvm.MethodName)).before a0 Z = true := hw _ (List.mem_of_getElem? (i := 48) rfl)
theorem wd49 {Z : State} {a0 : Array Value} (hw : ∀ d ∈ tables_1, d.before a0 Z = true) : (Jvm.Cond.code ({ cls := "com/example/notice_to_drain/noticetodrain/drain/HookOutcome", name := "hook", desc := "()Ljava/lang/String;" } : Jvm.MethodName) prog_5_method_6_code (1 : Nat) (Option.some (Jvm.ClassFile.FieldType.object "java/lang/String"))).before a0 Z = true := hw _ (List.mem_of_getElem? (i := 49) rfl)
theorem wd50 {Z : State} {a0 : Array Value} (hw : ∀ d ∈ tables_1, d.before a0 Z = true) : (Jvm.Cond.methodLink "com/example/notice_to_drain/noticetodrain/drain/HookOutcomeUnknownPinLaw" (23 : Nat) ({ cls := "java/lang/String", name := "equals", desc := "(Ljava/lang/Object;)Z" } : Jvm.MethodName)).before a0 Z = true := hw _ (List.mem_of_getElem? (i := 50) rfl)
theorem wd51 {Z : State} {a0 : Array Value} (hw : ∀ d ∈ tables_1, d.before a0 Z = true) : (Jvm.Cond.declares ({ cls := "java/lang/String", name := "equals", desc := "(Ljava/lang/Object;)Z" } : Jvm.MethodName)).before a0 Z = true := hw _ (List.mem_of_getElem? (i := 51) rfl)
theorem wd52 {Z : State} {a0 : Array Value} (hw : ∀ d ∈ tables_1, d.before a0 Z = true) : (Jvm.Cond.instanceMethod ({ cls := "java/lang/String", name := "equals", desc := "(Ljava/lang/Object;)Z" } : Jvm.MethodName)).before a0 Z = true := hw _ (List.mem_of_getElem? (i := 52) rfl)
theorem wd53 {Z : State} {a0 : Array Value} (hw : ∀ d ∈ tables_1, d.before a0 Z = true) : (Jvm.Cond.selects "java/lang/String" ({ cls := "java/lang/String", name := "equals", desc := "(Ljava/lang/Object;)Z" } : Jvm.MethodName) ({ cls := "java/lang/String", name := "equals", desc := "(Ljava/lang/Object;)Z" } : Jvm.MethodName)).before a0 Z = true := hw _ (List.mem_of_getElem? (i := 53) rfl)
theorem wd54 {Z : State} {a0 : Array Value} (hw : ∀ d ∈ tables_1, d.before a0 Z = true) : (Jvm.Cond.code ({ cls := "java/lang/String", name := "equals", desc := "(Ljava/lang/Object;)Z" } : Jvm.MethodName) jdk_42_method_66_code (3 : Nat) (Option.some Jvm.ClassFile.FieldType.boolean)).before a0 Z = true := hw _ (List.mem_of_getElem? (i := 54) rfl)
theorem wd55 {Z : State} {a0 : Array Value} (hw : ∀ d ∈ tables_1, d.before a0 Z = true) : (Jvm.Cond.methodLink "com/example/notice_to_drain/noticetodrain/drain/HookOutcomeUnknownPinLaw" (29 : Nat) ({ cls := "com/example/notice_to_drain/noticetodrain/drain/HookOutcome", name := "exitUnknown", desc := "()Z" } : Jvm.MethodName)).before a0 Z = true := hw _ (List.mem_of_getElem? (i := 55) rfl)
theorem wd56 {Z : State} {a0 : Array Value} (hw : ∀ d ∈ tables_1, d.before a0 Z = true) : (Jvm.Cond.declares ({ cls := "com/example/notice_to_drain/noticetodrain/drain/HookOutcome", name := "exitUnknown", desc := "()Z" } : Jvm.MethodName)).before a0 Z = true := hw _ (List.mem_of_getElem? (i := 56) rfl)
theorem wd57 {Z : State} {a0 : Array Value} (hw : ∀ d ∈ tables_1, d.before a0 Z = true) : (Jvm.Cond.instanceMethod ({ cls := "com/example/notice_to_drain/noticetodrain/drain/HookOutcome", name := "exitUnknown", desc := "()Z" } : Jvm.MethodName)).before a0 Z = true := hw _ (List.mem_of_getElem? (i := 57) rfl)
theorem wd58 {Z : State} {a0 : Array Value} (hw : ∀ d ∈ tables_1, d.before a0 Z = true) : (Jvm.Cond.selects "com/example/notice_to_drain/noticetodrain/drain/HookOutcome" ({ cls := "com/example/notice_to_drain/noticetodrain/drain/HookOutcome", name := "exitUnknown", desc := "()Z" } : Jvm.MethodName) ({ cls := "com/example/notice_to_drain/noticetodrain/drain/HookOutcome", name := "exitUnknown", desc := "()Z" } : Jvm.MethodName)).before a0 Z = true := hw _ (List.mem_of_getElem? (i := 58) rfl)
theorem wd59 {Z : State} {a0 : Array Value} (hw : ∀ d ∈ tables_1, d.before a0 Z = true) : (Jvm.Cond.code ({ cls := "com/example/notice_to_drain/noticetodrain/drain/HookOutcome", name := "exitUnknown", desc := "()Z" } : Jvm.MethodName) prog_5_method_10_code (1 : Nat) (Option.some Jvm.ClassFile.FieldType.boolean)).before a0 Z = true := hw _ (List.mem_of_getElem? (i := 59) rfl)
theorem wd60 {Z : State} {a0 : Array Value} (hw : ∀ d ∈ tables_1, d.before a0 Z = true) : (Jvm.Cond.methodLink "com/example/notice_to_drain/noticetodrain/drain/HookOutcomeUnknownPinLaw" (33 : Nat) ({ cls := "com/example/notice_to_drain/noticetodrain/drain/HookOutcome", name := "timedOut", desc := "()Z" } : Jvm.MethodName)).before a0 Z = true := hw _ (List.mem_of_getElem? (i := 60) rfl)
theorem wd61 {Z : State} {a0 : Array Value} (hw : ∀ d ∈ tables_1, d.before a0 Z = true) : (Jvm.Cond.declares ({ cls := "com/example/notice_to_drain/noticetodrain/drain/HookOutcome", name := "timedOut", desc := "()Z" } : Jvm.MethodName)).before a0 Z = true := hw _ (List.mem_of_getElem? (i := 61) rfl)
theorem wd62 {Z : State} {a0 : Array Value} (hw : ∀ d ∈ tables_1, d.before a0 Z = true) : (Jvm.Cond.instanceMethod ({ cls := "com/example/notice_to_drain/noticetodrain/drain/HookOutcome", name := "timedOut", desc := "()Z" } : Jvm.MethodName)).before a0 Z = true := hw _ (List.mem_of_getElem? (i := 62) rfl)
theorem wd63 {Z : State} {a0 : Array Value} (hw : ∀ d ∈ tables_1, d.before a0 Z = true) : (Jvm.Cond.selects "com/example/notice_to_drain/noticetodrain/drain/HookOutcome" ({ cls := "com/example/notice_to_drain/noticetodrain/drain/HookOutcome", name := "timedOut", desc := "()Z" } : Jvm.MethodName) ({ cls := "com/example/notice_to_drain/noticetodrain/drain/HookOutcome", name := "timedOut", desc := "()Z" } : Jvm.MethodName)).before a0 Z = true := hw _ (List.mem_of_getElem? (i := 63) rfl)
theorem wd64 {Z : State} {a0 : Array Value} (hw : ∀ d ∈ tables_1, d.before a0 Z = true) : (Jvm.Cond.code ({ cls := "com/example/notice_to_drain/noticetodrain/drain/HookOutcome", name := "timedOut", desc := "()Z" } : Jvm.MethodName) prog_5_method_9_code (1 : Nat) (Option.some Jvm.ClassFile.FieldType.boolean)).before a0 Z = true := hw _ (List.mem_of_getElem? (i := 64) rfl)
theorem wd65 {Z : State} {a0 : Array Value} (hw : ∀ d ∈ tables_1, d.before a0 Z = true) : (Jvm.Cond.fieldLink "com/example/notice_to_drain/noticetodrain/drain/HookOutcome" (38 : Nat) "com/example/notice_to_drain/noticetodrain/drain/HookOutcome$Ending" "TIMED_OUT" "Lcom/example/notice_to_drain/noticetodrain/drain/HookOutcome$Ending;").before a0 Z = true := hw _ (List.mem_of_getElem? (i := 65) rfl)
theorem wd66 {Z : State} {a0 : Array Value} (hw : ∀ d ∈ tables_1, d.before a0 Z = true) : (Jvm.Cond.laysStatic "com/example/notice_to_drain/noticetodrain/drain/HookOutcome$Ending" "TIMED_OUT" "Lcom/example/notice_to_drain/noticetodrain/drain/HookOutcome$Ending;").before a0 Z = true := hw _ (List.mem_of_getElem? (i := 66) rfl)
theorem wd67 {Z : State} {a0 : Array Value} (hw : ∀ d ∈ tables_1, d.before a0 Z = true) : (Jvm.Cond.methodLink "com/example/notice_to_drain/noticetodrain/drain/HookOutcomeUnknownPinLaw" (36 : Nat) ({ cls := "com/example/notice_to_drain/noticetodrain/drain/HookOutcome", name := "ok", desc := "()Z" } : Jvm.MethodName)).before a0 Z = true := hw _ (List.mem_of_getElem? (i := 67) rfl)
theorem wd68 {Z : State} {a0 : Array Value} (hw : ∀ d ∈ tables_1, d.before a0 Z = true) : (Jvm.Cond.declares ({ cls := "com/example/notice_to_drain/noticetodrain/drain/HookOutcome", name := "ok", desc := "()Z" } : Jvm.MethodName)).before a0 Z = true := hw _ (List.mem_of_getElem? (i := 68) rfl)
theorem wd69 {Z : State} {a0 : Array Value} (hw : ∀ d ∈ tables_1, d.before a0 Z = true) : (Jvm.Cond.instanceMethod ({ cls := "com/example/notice_to_drain/noticetodrain/drain/HookOutcome", name := "ok", desc := "()Z" } : Jvm.MethodName)).before a0 Z = true := hw _ (List.mem_of_getElem? (i := 69) rfl)
theorem wd70 {Z : State} {a0 : Array Value} (hw : ∀ d ∈ tables_1, d.before a0 Z = true) : (Jvm.Cond.selects "com/example/notice_to_drain/noticetodrain/drain/HookOutcome" ({ cls := "com/example/notice_to_drain/noticetodrain/drain/HookOutcome", name := "ok", desc := "()Z" } : Jvm.MethodName) ({ cls := "com/example/notice_to_drain/noticetodrain/drain/HookOutcome", name := "ok", desc := "()Z" } : Jvm.MethodName)).before a0 Z = true := hw _ (List.mem_of_getElem? (i := 70) rfl)
theorem wd71 {Z : State} {a0 : Array Value} (hw : ∀ d ∈ tables_1, d.before a0 Z = true) : (Jvm.Cond.code ({ cls := "com/example/notice_to_drain/noticetodrain/drain/HookOutcome", name := "ok", desc := "()Z" } : Jvm.MethodName) prog_5_method_8_code (1 : Nat) (Option.some Jvm.ClassFile.FieldType.boolean)).before a0 Z = true := hw _ (List.mem_of_getElem? (i := 71) rfl)
theorem d1_0 : decode method_3_code 0 = .ok (.iload_n 0, 1) := by decide +kernel
theorem d1_1 : decode method_3_code 1 = .ok (.ifCond .ne 14, 3) := by decide +kernel
theorem d1_4 : decode method_3_code 4 = .ok (.new 24, 3) := by decide +kernel
theorem d1_7 : decode method_3_code 7 = .ok (.dup, 1) := by decide +kernel
theorem d1_8 : decode method_3_code 8 = .ok (.iconst 0, 1) := by decide +kernel
theorem d1_9 : decode method_3_code 9 = .ok (.newarray .char, 2) := by decide +kernel
theorem d1_11 : decode method_3_code 11 = .ok (.invokespecial 39, 3) := by decide +kernel
theorem d1_14 : decode method_3_code 14 = .ok (.areturn, 1) := by decide +kernel
theorem d1_15 : decode method_3_code 15 = .ok (.iload_n 0, 1) := by decide +kernel
theorem d1_16 : decode method_3_code 16 = .ok (.iconst 1, 1) := by decide +kernel
theorem d1_17 : decode method_3_code 17 = .ok (.if_icmp .ne 18, 3) := by decide +kernel
theorem d1_20 : decode method_3_code 20 = .ok (.new 24, 3) := by decide +kernel
theorem d1_23 : decode method_3_code 23 = .ok (.dup, 1) := by decide +kernel
theorem d1_24 : decode method_3_code 24 = .ok (.iconst 1, 1) := by decide +kernel
theorem d1_25 : decode method_3_code 25 = .ok (.newarray .char, 2) := by decide +kernel
theorem d1_27 : decode method_3_code 27 = .ok (.dup, 1) := by decide +kernel
theorem d1_28 : decode method_3_code 28 = .ok (.iconst 0, 1) := by decide +kernel
theorem d1_29 : decode method_3_code 29 = .ok (.iload_n 1, 1) := by decide +kernel
theorem d1_30 : decode method_3_code 30 = .ok (.castore, 1) := by decide +kernel
theorem d1_31 : decode method_3_code 31 = .ok (.invokespecial 39, 3) := by decide +kernel
theorem d1_34 : decode method_3_code 34 = .ok (.areturn, 1) := by decide +kernel
theorem d1_35 : decode method_3_code 35 = .ok (.iload_n 0, 1) := by decide +kernel
theorem d1_36 : decode method_3_code 36 = .ok (.iconst 2, 1) := by decide +kernel
theorem d1_37 : decode method_3_code 37 = .ok (.if_icmp .ne 22, 3) := by decide +kernel
theorem d1_40 : decode method_3_code 40 = .ok (.new 24, 3) := by decide +kernel
theorem d1_43 : decode method_3_code 43 = .ok (.dup, 1) := by decide +kernel
theorem d1_44 : decode method_3_code 44 = .ok (.iconst 2, 1) := by decide +kernel
theorem d1_45 : decode method_3_code 45 = .ok (.newarray .char, 2) := by decide +kernel
theorem d1_47 : decode method_3_code 47 = .ok (.dup, 1) := by decide +kernel
theorem d1_48 : decode method_3_code 48 = .ok (.iconst 0, 1) := by decide +kernel
theorem d1_49 : decode method_3_code 49 = .ok (.iload_n 1, 1) := by decide +kernel
theorem d1_50 : decode method_3_code 50 = .ok (.castore, 1) := by decide +kernel
theorem d1_51 : decode method_3_code 51 = .ok (.dup, 1) := by decide +kernel
theorem d1_52 : decode method_3_code 52 = .ok (.iconst 1, 1) := by decide +kernel
theorem d1_53 : decode method_3_code 53 = .ok (.iload_n 2, 1) := by decide +kernel
theorem d1_54 : decode method_3_code 54 = .ok (.castore, 1) := by decide +kernel
theorem d1_55 : decode method_3_code 55 = .ok (.invokespecial 39, 3) := by decide +kernel
theorem d1_58 : decode method_3_code 58 = .ok (.areturn, 1) := by decide +kernel
theorem d1_59 : decode method_3_code 59 = .ok (.iload_n 0, 1) := by decide +kernel
theorem d1_60 : decode method_3_code 60 = .ok (.iconst 4, 1) := by decide +kernel
theorem d1_61 : decode method_3_code 61 = .ok (.if_icmp .ne 5, 3) := by decide +kernel
theorem d1_64 : decode method_3_code 64 = .ok (.aconst_null, 1) := by decide +kernel
theorem d1_65 : decode method_3_code 65 = .ok (.areturn, 1) := by decide +kernel
theorem d1_66 : decode method_3_code 66 = .ok (.new 24, 3) := by decide +kernel
theorem d1_69 : decode method_3_code 69 = .ok (.dup, 1) := by decide +kernel
theorem d1_70 : decode method_3_code 70 = .ok (.iconst 3, 1) := by decide +kernel
theorem d1_71 : decode method_3_code 71 = .ok (.newarray .char, 2) := by decide +kernel
theorem d1_73 : decode method_3_code 73 = .ok (.dup, 1) := by decide +kernel
theorem d1_74 : decode method_3_code 74 = .ok (.iconst 0, 1) := by decide +kernel
theorem d1_75 : decode method_3_code 75 = .ok (.iload_n 1, 1) := by decide +kernel
theorem d1_76 : decode method_3_code 76 = .ok (.castore, 1) := by decide +kernel
theorem d1_77 : decode method_3_code 77 = .ok (.dup, 1) := by decide +kernel
theorem d1_78 : decode method_3_code 78 = .ok (.iconst 1, 1) := by decide +kernel
theorem d1_79 : decode method_3_code 79 = .ok (.iload_n 2, 1) := by decide +kernel
theorem d1_80 : decode method_3_code 80 = .ok (.castore, 1) := by decide +kernel
theorem d1_81 : decode method_3_code 81 = .ok (.dup, 1) := by decide +kernel
theorem d1_82 : decode method_3_code 82 = .ok (.iconst 2, 1) := by decide +kernel
theorem d1_83 : decode method_3_code 83 = .ok (.iload_n 3, 1) := by decide +kernel
theorem d1_84 : decode method_3_code 84 = .ok (.castore, 1) := by decide +kernel
theorem d1_85 : decode method_3_code 85 = .ok (.invokespecial 39, 3) := by decide +kernel
theorem d1_88 : decode method_3_code 88 = .ok (.areturn, 1) := by decide +kernel
theorem d2_0 : decode jdk_42_method_3_code 0 = .ok (.aload_n 0, 1) := by decide +kernel
theorem d2_1 : decode jdk_42_method_3_code 1 = .ok (.aload_n 1, 1) := by decide +kernel
theorem d2_2 : decode jdk_42_method_3_code 2 = .ok (.iconst 0, 1) := by decide +kernel
theorem d2_3 : decode jdk_42_method_3_code 3 = .ok (.aload_n 1, 1) := by decide +kernel
theorem d2_4 : decode jdk_42_method_3_code 4 = .ok (.arraylength, 1) := by decide +kernel
theorem d2_5 : decode jdk_42_method_3_code 5 = .ok (.aconst_null, 1) := by decide +kernel
theorem d2_6 : decode jdk_42_method_3_code 6 = .ok (.invokespecial 27, 3) := by decide +kernel
theorem d2_9 : decode jdk_42_method_3_code 9 = .ok (.return_, 1) := by decide +kernel
theorem d3_0 : decode jdk_42_method_149_code 0 = .ok (.aload_n 0, 1) := by decide +kernel
theorem d3_1 : decode jdk_42_method_149_code 1 = .ok (.invokespecial 1, 3) := by decide +kernel
theorem d3_4 : decode jdk_42_method_149_code 4 = .ok (.iload_n 3, 1) := by decide +kernel
theorem d3_5 : decode jdk_42_method_149_code 5 = .ok (.ifCond .ne 22, 3) := by decide +kernel
theorem d3_8 : decode jdk_42_method_149_code 8 = .ok (.aload_n 0, 1) := by decide +kernel
theorem d3_9 : decode jdk_42_method_149_code 9 = .ok (.ldc 7, 2) := by decide +kernel
theorem d3_11 : decode jdk_42_method_149_code 11 = .ok (.getfield 9, 3) := by decide +kernel
theorem d3_14 : decode jdk_42_method_149_code 14 = .ok (.putfield 9, 3) := by decide +kernel
theorem d3_17 : decode jdk_42_method_149_code 17 = .ok (.aload_n 0, 1) := by decide +kernel
theorem d3_18 : decode jdk_42_method_149_code 18 = .ok (.ldc 7, 2) := by decide +kernel
theorem d3_20 : decode jdk_42_method_149_code 20 = .ok (.getfield 15, 3) := by decide +kernel
theorem d3_23 : decode jdk_42_method_149_code 23 = .ok (.putfield 15, 3) := by decide +kernel
theorem d3_26 : decode jdk_42_method_149_code 26 = .ok (.return_, 1) := by decide +kernel
theorem d5_0 : decode prog_5_method_5_code 0 = .ok (.new 8, 3) := by decide +kernel
theorem d5_3 : decode prog_5_method_5_code 3 = .ok (.dup, 1) := by decide +kernel
theorem d5_4 : decode prog_5_method_5_code 4 = .ok (.aload_n 0, 1) := by decide +kernel
theorem d5_5 : decode prog_5_method_5_code 5 = .ok (.getstatic 41, 3) := by decide +kernel
theorem d5_8 : decode prog_5_method_5_code 8 = .ok (.aconst_null, 1) := by decide +kernel
theorem d5_9 : decode prog_5_method_5_code 9 = .ok (.invokespecial 32, 3) := by decide +kernel
theorem d5_12 : decode prog_5_method_5_code 12 = .ok (.areturn, 1) := by decide +kernel
theorem d6_0 : decode prog_5_method_1_code 0 = .ok (.aload_n 0, 1) := by decide +kernel
theorem d6_1 : decode prog_5_method_1_code 1 = .ok (.invokespecial 1, 3) := by decide +kernel
theorem d6_4 : decode prog_5_method_1_code 4 = .ok (.aload_n 0, 1) := by decide +kernel
theorem d6_5 : decode prog_5_method_1_code 5 = .ok (.aload_n 1, 1) := by decide +kernel
theorem d6_6 : decode prog_5_method_1_code 6 = .ok (.putfield 7, 3) := by decide +kernel
theorem d6_9 : decode prog_5_method_1_code 9 = .ok (.aload_n 0, 1) := by decide +kernel
theorem d6_10 : decode prog_5_method_1_code 10 = .ok (.aload_n 2, 1) := by decide +kernel
theorem d6_11 : decode prog_5_method_1_code 11 = .ok (.putfield 13, 3) := by decide +kernel
theorem d6_14 : decode prog_5_method_1_code 14 = .ok (.aload_n 0, 1) := by decide +kernel
theorem d6_15 : decode prog_5_method_1_code 15 = .ok (.aload_n 3, 1) := by decide +kernel
theorem d6_16 : decode prog_5_method_1_code 16 = .ok (.putfield 17, 3) := by decide +kernel
theorem d6_19 : decode prog_5_method_1_code 19 = .ok (.return_, 1) := by decide +kernel
theorem d7_0 : decode prog_5_method_6_code 0 = .ok (.aload_n 0, 1) := by decide +kernel
theorem d7_1 : decode prog_5_method_6_code 1 = .ok (.getfield 7, 3) := by decide +kernel
theorem d7_4 : decode prog_5_method_6_code 4 = .ok (.areturn, 1) := by decide +kernel
theorem d8_0 : decode jdk_42_method_66_code 0 = .ok (.aload_n 0, 1) := by decide +kernel
theorem d8_1 : decode jdk_42_method_66_code 1 = .ok (.aload_n 1, 1) := by decide +kernel
theorem d8_2 : decode jdk_42_method_66_code 2 = .ok (.if_acmp .ne 5, 3) := by decide +kernel
theorem d8_5 : decode jdk_42_method_66_code 5 = .ok (.iconst 1, 1) := by decide +kernel
theorem d8_6 : decode jdk_42_method_66_code 6 = .ok (.ireturn, 1) := by decide +kernel
theorem d9_0 : decode prog_5_method_10_code 0 = .ok (.aload_n 0, 1) := by decide +kernel
theorem d9_1 : decode prog_5_method_10_code 1 = .ok (.getfield 13, 3) := by decide +kernel
theorem d9_4 : decode prog_5_method_10_code 4 = .ok (.getstatic 41, 3) := by decide +kernel
theorem d9_7 : decode prog_5_method_10_code 7 = .ok (.if_acmp .ne 7, 3) := by decide +kernel
theorem d9_10 : decode prog_5_method_10_code 10 = .ok (.iconst 1, 1) := by decide +kernel
theorem d9_11 : decode prog_5_method_10_code 11 = .ok (.goto 4, 3) := by decide +kernel
theorem d9_15 : decode prog_5_method_10_code 15 = .ok (.ireturn, 1) := by decide +kernel
theorem d10_0 : decode prog_5_method_9_code 0 = .ok (.aload_n 0, 1) := by decide +kernel
theorem d10_1 : decode prog_5_method_9_code 1 = .ok (.getfield 13, 3) := by decide +kernel
theorem d10_4 : decode prog_5_method_9_code 4 = .ok (.getstatic 38, 3) := by decide +kernel
theorem d10_7 : decode prog_5_method_9_code 7 = .ok (.if_acmp .ne 7, 3) := by decide +kernel
theorem d10_14 : decode prog_5_method_9_code 14 = .ok (.iconst 0, 1) := by decide +kernel
theorem d10_15 : decode prog_5_method_9_code 15 = .ok (.ireturn, 1) := by decide +kernel
theorem d11_0 : decode prog_5_method_8_code 0 = .ok (.aload_n 0, 1) := by decide +kernel
theorem d11_1 : decode prog_5_method_8_code 1 = .ok (.getfield 17, 3) := by decide +kernel
theorem d11_4 : decode prog_5_method_8_code 4 = .ok (.ifnull 17, 3) := by decide +kernel
theorem d11_21 : decode prog_5_method_8_code 21 = .ok (.iconst 0, 1) := by decide +kernel
theorem d11_22 : decode prog_5_method_8_code 22 = .ok (.ireturn, 1) := by decide +kernel
theorem pd0 : parseMethodDescriptor "(Ljava/lang/String;Lcom/example/notice_to_drain/noticetodrain/drain/HookOutcome$Ending;Ljava/lang/Integer;)V" = some ⟨[(.object "java/lang/String"), (.object "com/example/notice_to_drain/noticetodrain/drain/HookOutcome$Ending"), (.object "java/lang/Integer")], none⟩ := by decide +kernel
theorem pd1 : parseMethodDescriptor "([CIILjava/lang/Void;)V" = some ⟨[(.array .char), .int, .int, (.object "java/lang/Void")], none⟩ := by decide +kernel
theorem pd2 : parseMethodDescriptor "([C)V" = some ⟨[(.array .char)], none⟩ := by decide +kernel
theorem pd3 : parseMethodDescriptor "(ICCC)Ljava/lang/String;" = some ⟨[.int, .char, .char, .char], some (.object "java/lang/String")⟩ := by decide +kernel
theorem pd4 : parseMethodDescriptor "(Ljava/lang/String;)Lcom/example/notice_to_drain/noticetodrain/drain/HookOutcome;" = some ⟨[(.object "java/lang/String")], some (.object "com/example/notice_to_drain/noticetodrain/drain/HookOutcome")⟩ := by decide +kernel
theorem pd5 : parseMethodDescriptor "()Ljava/lang/String;" = some ⟨[], some (.object "java/lang/String")⟩ := by decide +kernel
theorem pd6 : parseMethodDescriptor "()Z" = some ⟨[], some .boolean⟩ := by decide +kernel
theorem pd7 : parseMethodDescriptor "(Ljava/lang/Object;)Z" = some ⟨[(.object "java/lang/Object")], some .boolean⟩ := by decide +kernel
theorem pn0 : plainName "com/example/notice_to_drain/noticetodrain/drain/HookOutcome" = true := by first | (simp [plainName, overriddenIn]; done) | decide +kernel
theorem pn1 : plainName "java/lang/String" = true := by first | (simp [plainName, overriddenIn]; done) | decide +kernel
theorem pn2 : plainName "com/example/notice_to_drain/noticetodrain/drain/HookOutcomeUnknownPinLaw" = true := by first | (simp [plainName, overriddenIn]; done) | decide +kernel
abbrev rm0 : Room := { frames := 0, cells := 0, slots := 0, locals := 0 }
abbrev rm1 : Room := { frames := 1, cells := 0, slots := 0, locals := 16 }
abbrev rmN : Room := { frames := 2, cells := 1, slots := 3, locals := 64 }
abbrev rmI4 : Room := { frames := 1, cells := 2, slots := 4, locals := 16 }
abbrev rmI1 : Room := { frames := 2, cells := 2, slots := 4, locals := 48 }
abbrev rmP : Room := { frames := 5, cells := 6, slots := 24, locals := 120 }
/-- what is said of the start -/
def Gl (Z : State) (a0 : Array Value) (cz : Int32) (u t : Addr) : Prop :=
  (∀ d ∈ tables_1, d.before a0 Z = true) ∧ Sta Z Z.heap "java/lang/String" "COMPACT_STRINGS" "Z" (.int cz) ∧ ¬ cz = 0 ∧ Sta Z Z.heap "com/example/notice_to_drain/noticetodrain/drain/HookOutcome$Ending" "UNKNOWN" "Lcom/example/notice_to_drain/noticetodrain/drain/HookOutcome$Ending;" (.ref u) ∧ Sta Z Z.heap "com/example/notice_to_drain/noticetodrain/drain/HookOutcome$Ending" "TIMED_OUT" "Lcom/example/notice_to_drain/noticetodrain/drain/HookOutcome$Ending;" (.ref t) ∧ ¬ u = t ∧ Jvm.Lit.constHeld Z "java/lang/String" 7 ∧ Jvm.Lit.compactW.before a0 Z = true
set_option maxRecDepth 65536 in
set_option maxHeartbeats 40000000 in
theorem c_init (l : Launch) (Z : State) (a0 : Array Value) (cz : Int32) (u t : Addr) (G : Gl Z a0 cz u t) (a b : Addr) (hk : Value) (hr : hk.isRef = true) (h0 : Heap) (n0 : Nat) (ga : n0 ≤ a) (E0 : Exa Z h0 a "com/example/notice_to_drain/noticetodrain/drain/HookOutcome") (o1 o2 o3 : Value) (F1 : Fld Z h0 a "com/example/notice_to_drain/noticetodrain/drain/HookOutcome" "hook" "Ljava/lang/String;" o1) (F2 : Fld Z h0 a "com/example/notice_to_drain/noticetodrain/drain/HookOutcome" "ending" "Lcom/example/notice_to_drain/noticetodrain/drain/HookOutcome$Ending;" o2) (F3 : Fld Z h0 a "com/example/notice_to_drain/noticetodrain/drain/HookOutcome" "exitStatus" "Ljava/lang/Integer;" o3) :
    Ctr l Z (⟨"com/example/notice_to_drain/noticetodrain/drain/HookOutcome", "<init>", "(Ljava/lang/String;Lcom/example/notice_to_drain/noticetodrain/drain/HookOutcome$Ending;Ljava/lang/Integer;)V"⟩ : MethodName) prog_5_method_1_code 4 none rm1 #[(.ref a), hk, (.ref b), .null] h0 n0 (fun v h => v = none ∧ Keep h0 h [a] ∧ Exa Z h a "com/example/notice_to_drain/noticetodrain/drain/HookOutcome" ∧ Fld Z h a "com/example/notice_to_drain/noticetodrain/drain/HookOutcome" "hook" "Ljava/lang/String;" hk ∧ Fld Z h a "com/example/notice_to_drain/noticetodrain/drain/HookOutcome" "ending" "Lcom/example/notice_to_drain/noticetodrain/drain/HookOutcome$Ending;" (.ref b) ∧ Fld Z h a "com/example/notice_to_drain/noticetodrain/drain/HookOutcome" "exitStatus" "Ljava/lang/Integer;" .null) := by
  have hw := G.1
  have hc := own_cat hr
  refine Ctr.of (n1 := n0) #[.val (.ref a), .val hk, .val (.ref b), .val .null] (plainFor_of_name pn0) (fun m => by first | (simp [entryFrame, mkF, argsToLocals, hc]; done) | (simp [entryFrame, mkF, argsToLocals, hc]; rfl)) ?_
  intro p e s m below meth c C
  refine g_aloadN C d6_0 (v := (.ref a)) rfl rfl (q := 1) rfl ?_
  refine g_initO C d6_1 (wd38 hw) (wd16 hw) (wd17 hw) rfl (by decide) (W := 0) rfl (by decide) (q := 4) rfl ?_
  refine g_aloadN C d6_4 (v := (.ref a)) rfl rfl (q := 5) rfl ?_
  refine g_aloadN C d6_5 (v := hk) rfl hr (q := 6) rfl ?_
  refine g_putf C d6_6 (host := "") (Or.inl (wd39 hw)) Via.refl F1 E0 (Or.inr ⟨(wd40 hw), rfl, rfl⟩) (wd31 hw) (ty := (.object "java/lang/String")) (by decide) (own_nar hr) (own_fit hr) ga (q := 9) rfl (fun h1 W1 => ?_)
  have E1 := E0.wr W1
  have G1 := F1.same W1
  have G2 := F2.other W1 (Or.inr (slot_ne (Or.inr (wd42 hw)) (Or.inr (wd40 hw)) (by decide) (t := (.object "com/example/notice_to_drain/noticetodrain/drain/HookOutcome$Ending")) (t' := (.object "java/lang/String")) (by decide) (by decide)))
  have G3 := F3.other W1 (Or.inr (slot_ne (Or.inr (wd44 hw)) (Or.inr (wd40 hw)) (by decide) (t := (.object "java/lang/Integer")) (t' := (.object "java/lang/String")) (by decide) (by decide)))
  refine g_aloadN C d6_9 (v := (.ref a)) rfl rfl (q := 10) rfl ?_
  refine g_aloadN C d6_10 (v := (.ref b)) rfl rfl (q := 11) rfl ?_
  refine g_putf C d6_11 (host := "") (Or.inl (wd41 hw)) Via.refl G2 E1 (Or.inr ⟨(wd42 hw), rfl, rfl⟩) (wd31 hw) (ty := (.object "com/example/notice_to_drain/noticetodrain/drain/HookOutcome$Ending")) (by decide) rfl rfl ga (q := 14) rfl (fun h2 W2 => ?_)
  have E2 := E1.wr W2
  have H1 := G1.other W2 (Or.inr (slot_ne (Or.inr (wd40 hw)) (Or.inr (wd42 hw)) (by decide) (t := (.object "java/lang/String")) (t' := (.object "com/example/notice_to_drain/noticetodrain/drain/HookOutcome$Ending")) (by decide) (by decide)))
  have H2 := G2.same W2
  have H3 := G3.other W2 (Or.inr (slot_ne (Or.inr (wd44 hw)) (Or.inr (wd42 hw)) (by decide) (t := (.object "java/lang/Integer")) (t' := (.object "com/example/notice_to_drain/noticetodrain/drain/HookOutcome$Ending")) (by decide) (by decide)))
  refine g_aloadN C d6_14 (v := (.ref a)) rfl rfl (q := 15) rfl ?_
  refine g_aloadN C d6_15 (v := .null) rfl rfl (q := 16) rfl ?_
  refine g_putf C d6_16 (host := "") (Or.inl (wd43 hw)) Via.refl H3 E2 (Or.inr ⟨(wd44 hw), rfl, rfl⟩) (wd31 hw) (ty := (.object "java/lang/Integer")) (by decide) rfl rfl ga (q := 19) rfl (fun h3 W3 => ?_)
  have E3 := E2.wr W3
  have I1 := H1.other W3 (Or.inr (slot_ne (Or.inr (wd40 hw)) (Or.inr (wd44 hw)) (by decide) (t := (.object "java/lang/String")) (t' := (.object "java/lang/Integer")) (by decide) (by decide)))
  have I2 := H2.other W3 (Or.inr (slot_ne (Or.inr (wd42 hw)) (Or.inr (wd44 hw)) (by decide) (t := (.object "com/example/notice_to_drain/noticetodrain/drain/HookOutcome$Ending")) (t' := (.object "java/lang/Integer")) (by decide) (by decide)))
  have I3 := H3.same W3
  have K3 : Keep h0 h3 [a] := (((Keep.refl h0 [a]).wr W1 (Or.inl (by simp))).wr W2 (Or.inl (by simp))).wr W3 (Or.inl (by simp))
  refine g_return C d6_19 (Nat.le_refl _) (by decide) (by decide) ⟨rfl, K3, E3, I1, I2, I3⟩
set_option maxRecDepth 65536 in
set_option maxHeartbeats 40000000 in
theorem c_unknown (l : Launch) (Z : State) (a0 : Array Value) (cz : Int32) (u t : Addr) (G : Gl Z a0 cz u t) (hk : Value) (hr : hk.isRef = true) (h0 : Heap) (n0 : Nat) (Z0 : n0 ≤ h0.size) (X0 : Ext Z.heap h0) :
    Ctr l Z (⟨"com/example/notice_to_drain/noticetodrain/drain/HookOutcome", "unknown", "(Ljava/lang/String;)Lcom/example/notice_to_drain/noticetodrain/drain/HookOutcome;"⟩ : MethodName) prog_5_method_5_code 1 (some (.object "com/example/notice_to_drain/noticetodrain/drain/HookOutcome")) rmN #[hk] h0 n0 (fun v h => ∃ a, v = some (.ref a) ∧ h0.size ≤ a ∧ Keep h0 h [] ∧ Exa Z h a "com/example/notice_to_drain/noticetodrain/drain/HookOutcome" ∧ Fld Z h a "com/example/notice_to_drain/noticetodrain/drain/HookOutcome" "hook" "Ljava/lang/String;" hk ∧ Fld Z h a "com/example/notice_to_drain/noticetodrain/drain/HookOutcome" "ending" "Lcom/example/notice_to_drain/noticetodrain/drain/HookOutcome$Ending;" (.ref u) ∧ Fld Z h a "com/example/notice_to_drain/noticetodrain/drain/HookOutcome" "exitStatus" "Ljava/lang/Integer;" .null) := by
  have Gk := G
  have hw := G.1
  have hc := own_cat hr
  obtain ⟨-, -, -, S1, -⟩ := G
  refine Ctr.of (n1 := n0) #[.val hk] (plainFor_of_name pn0) (fun m => by first | (simp [entryFrame, mkF, argsToLocals, hc]; done) | (simp [entryFrame, mkF, argsToLocals, hc]; rfl)) ?_
  intro p e s m below meth c C
  refine g_new C d5_0 (wd30 hw) (wd31 hw) (wd28 hw) (by decide) (by decide) (q := 3) rfl (fun a1 h1 q1 E1 A1 D1 => ?_)
  refine g_dup C d5_3 rfl (q := 4) rfl ?_
  refine g_aloadN C d5_4 (v := hk) rfl hr (q := 5) rfl ?_
  refine g_gets C d5_5 (host := "") (Or.inl (wd32 hw)) Via.refl (S1.ext (Ext.tr X0 E1)) (q := 8) rfl ?_
  refine g_aconst_null C d5_8 (q := 9) rfl ?_
  have ga : n0 ≤ a1 := by rw [q1]; exact Z0
  refine g_callI C (W := 1) (argsL := [hk, (.ref u), .null]) (rest := [(.ref a1)]) (a := a1) d5_9 rfl (wd35 hw) (wd36 hw) (wd37 hw) (by decide) (Ctr.bk (c_init l Z a0 cz u t Gk a1 u hk hr h1 n0 ga A1 _ _ _ (D1 (Or.inr (wd40 hw)) (ty := (.object "java/lang/String")) (by decide)) (D1 (Or.inr (wd42 hw)) (ty := (.object "com/example/notice_to_drain/noticetodrain/drain/HookOutcome$Ending")) (by decide)) (D1 (Or.inr (wd44 hw)) (ty := (.object "java/lang/Integer")) (by decide))) C (wd37 hw) (wd28 hw) (by decide) (by decide)) (by decide) (by decide) rfl (lenOf pd0 rfl) rfl rfl (q := 12) rfl (fun v2 h2 hQ2 => ?_)
  obtain ⟨rfl, K2, E2, I1, I2, I3⟩ := hQ2
  refine ⟨[(.ref a1)], rfl, ?_⟩
  refine g_areturn C d5_12 rfl rfl (Nat.le_refl _) (by decide) (by decide) ⟨a1, rfl, by rw [q1]; exact Nat.le_refl _, (Ext.kp E1 []).trans K2 (fun x hx => Or.inr (by cases List.mem_singleton.mp hx; rw [q1]; exact Nat.le_refl _)), E2, I1, I2, I3⟩
set_option maxRecDepth 65536 in
set_option maxHeartbeats 40000000 in
theorem c_hook (l : Launch) (Z : State) (a0 : Array Value) (cz : Int32) (u t : Addr) (G : Gl Z a0 cz u t) (a : Addr) (hk : Value) (hr : hk.isRef = true) (h0 : Heap) (n0 : Nat) (F1 : Fld Z h0 a "com/example/notice_to_drain/noticetodrain/drain/HookOutcome" "hook" "Ljava/lang/String;" hk) :
    Ctr l Z (⟨"com/example/notice_to_drain/noticetodrain/drain/HookOutcome", "hook", "()Ljava/lang/String;"⟩ : MethodName) prog_5_method_6_code 1 (some (.object "java/lang/String")) rm0 #[(.ref a)] h0 n0 (fun v h => v = some hk ∧ h0 = h) := by
  have hw := G.1
  refine Ctr.of (n1 := n0) #[.val (.ref a)] (plainFor_of_name pn0) (fun m => by rfl) ?_
  intro p e s m below meth c C
  refine g_aloadN C d7_0 (v := (.ref a)) rfl rfl (q := 1) rfl ?_
  refine g_getf C d7_1 (host := "") (Or.inl (wd39 hw)) Via.refl F1 (q := 4) rfl ?_
  refine g_areturn C d7_4 rfl hr (Nat.le_refl _) (by decide) (by decide) ⟨rfl, rfl⟩
set_option maxRecDepth 65536 in
set_option maxHeartbeats 40000000 in
theorem c_exitUnknown (l : Launch) (Z : State) (a0 : Array Value) (cz : Int32) (u t : Addr) (G : Gl Z a0 cz u t) (a : Addr) (h0 : Heap) (n0 : Nat) (X0 : Ext Z.heap h0) (F1 : Fld Z h0 a "com/example/notice_to_drain/noticetodrain/drain/HookOutcome" "ending" "Lcom/example/notice_to_drain/noticetodrain/drain/HookOutcome$Ending;" (.ref u)) :
    Ctr l Z (⟨"com/example/notice_to_drain/noticetodrain/drain/HookOutcome", "exitUnknown", "()Z"⟩ : MethodName) prog_5_method_10_code 1 (some .boolean) rm0 #[(.ref a)] h0 n0 (fun v h => v = some (.int 1) ∧ h0 = h) := by
  have hw := G.1
  obtain ⟨-, -, -, S1, S2, hut, -⟩ := G
  refine Ctr.of (n1 := n0) #[.val (.ref a)] (plainFor_of_name pn0) (fun m => by rfl) ?_
  intro p e s m below meth c C
  refine g_aloadN C d9_0 (v := (.ref a)) rfl rfl (q := 1) rfl ?_
  refine g_getf C d9_1 (host := "") (Or.inl (wd41 hw)) Via.refl F1 (q := 4) rfl ?_
  refine g_gets C d9_4 (host := "") (Or.inl (wd32 hw)) Via.refl (S1.ext X0) (q := 7) rfl ?_
  refine g_acmp_ne C d9_7 rfl rfl (q' := 14) (q := 10) (by decide) (by decide) rfl (fun hy => absurd rfl hy) (fun hn => ?_)
  refine g_iconst C d9_10 (z := (1 : Int32)) rfl (q := 11) rfl ?_
  refine g_goto C d9_11 (q := 15) (by decide) (by decide) ?_
  refine g_nreturn C d9_15 (by simp) rfl (Nat.le_refl _) (by decide) (by decide) ⟨rfl, rfl⟩
set_option maxRecDepth 65536 in
set_option maxHeartbeats 40000000 in
theorem c_timedOut (l : Launch) (Z : State) (a0 : Array Value) (cz : Int32) (u t : Addr) (G : Gl Z a0 cz u t) (a : Addr) (h0 : Heap) (n0 : Nat) (X0 : Ext Z.heap h0) (F1 : Fld Z h0 a "com/example/notice_to_drain/noticetodrain/drain/HookOutcome" "ending" "Lcom/example/notice_to_drain/noticetodrain/drain/HookOutcome$Ending;" (.ref u)) :
    Ctr l Z (⟨"com/example/notice_to_drain/noticetodrain/drain/HookOutcome", "timedOut", "()Z"⟩ : MethodName) prog_5_method_9_code 1 (some .boolean) rm0 #[(.ref a)] h0 n0 (fun v h => v = some (.int 0) ∧ h0 = h) := by
  have hw := G.1
  obtain ⟨-, -, -, S1, S2, hut, -⟩ := G
  refine Ctr.of (n1 := n0) #[.val (.ref a)] (plainFor_of_name pn0) (fun m => by rfl) ?_
  intro p e s m below meth c C
  refine g_aloadN C d10_0 (v := (.ref a)) rfl rfl (q := 1) rfl ?_
  refine g_getf C d10_1 (host := "") (Or.inl (wd41 hw)) Via.refl F1 (q := 4) rfl ?_
  refine g_gets C d10_4 (host := "") (Or.inl (wd65 hw)) Via.refl (S2.ext X0) (q := 7) rfl ?_
  refine g_acmp_ne C d10_7 rfl rfl (q' := 14) (q := 10) (by decide) (by decide) rfl (fun hy => ?_) (fun hn => absurd (Value.ref.inj hn) hut)
  refine g_iconst C d10_14 (z := (0 : Int32)) rfl (q := 15) rfl ?_
  refine g_nreturn C d10_15 (by simp) rfl (Nat.le_refl _) (by decide) (by decide) ⟨rfl, rfl⟩
set_option maxRecDepth 65536 in
set_option maxHeartbeats 40000000 in
theorem c_ok (l : Launch) (Z : State) (a0 : Array Value) (cz : Int32) (u t : Addr) (G : Gl Z a0 cz u t) (a : Addr) (h0 : Heap) (n0 : Nat) (F1 : Fld Z h0 a "com/example/notice_to_drain/noticetodrain/drain/HookOutcome" "exitStatus" "Ljava/lang/Integer;" .null) :
    Ctr l Z (⟨"com/example/notice_to_drain/noticetodrain/drain/HookOutcome", "ok", "()Z"⟩ : MethodName) prog_5_method_8_code 1 (some .boolean) rm0 #[(.ref a)] h0 n0 (fun v h => v = some (.int 0) ∧ h0 = h) := by
  have hw := G.1
  refine Ctr.of (n1 := n0) #[.val (.ref a)] (plainFor_of_name pn0) (fun m => by rfl) ?_
  intro p e s m below meth c C
  refine g_aloadN C d11_0 (v := (.ref a)) rfl rfl (q := 1) rfl ?_
  refine g_getf C d11_1 (host := "") (Or.inl (wd43 hw)) Via.refl F1 (q := 4) rfl ?_
  refine g_ifnullY C d11_4 (a := 0) (q := 21) (by decide) (by decide) ?_
  refine g_iconst C d11_21 (z := (0 : Int32)) rfl (q := 22) rfl ?_
  refine g_nreturn C d11_22 (by simp) rfl (Nat.le_refl _) (by decide) (by decide) ⟨rfl, rfl⟩
set_option maxRecDepth 65536 in
set_option maxHeartbeats 40000000 in
theorem c_eqself (l : Launch) (Z : State) (a0 : Array Value) (cz : Int32) (u t : Addr) (G : Gl Z a0 cz u t) (a : Addr) (h0 : Heap) (n0 : Nat) :
    Ctr l Z (⟨"java/lang/String", "equals", "(Ljava/lang/Object;)Z"⟩ : MethodName) jdk_42_method_66_code 3 (some .boolean) rm0 #[(.ref a), (.ref a)] h0 n0 (fun v h => v = some (.int 1) ∧ h0 = h) := by
  have hw := G.1
  refine Ctr.of (n1 := n0) #[.val (.ref a), .val (.ref a), .unset] (plainFor_of_name pn1) (fun m => by rfl) ?_
  intro p e s m below meth c C
  refine g_aloadN C d8_0 (v := (.ref a)) rfl rfl (q := 1) rfl ?_
  refine g_aloadN C d8_1 (v := (.ref a)) rfl rfl (q := 2) rfl ?_
  refine g_acmp_ne C d8_2 rfl rfl (q' := 7) (q := 5) (by decide) (by decide) rfl (fun hy => absurd rfl hy) (fun hn => ?_)
  refine g_iconst C d8_5 (z := (1 : Int32)) rfl (q := 6) rfl ?_
  refine g_nreturn C d8_6 (by simp) rfl (Nat.le_refl _) (by decide) (by decide) ⟨rfl, rfl⟩
set_option maxRecDepth 65536 in
set_option maxHeartbeats 40000000 in
theorem c_init4e (l : Launch) (Z : State) (a0 : Array Value) (cz : Int32) (u t : Addr) (G : Gl Z a0 cz u t) (a b : Addr) (h0 : Heap) (n0 : Nat) (Z0 : n0 ≤ h0.size) (ga : n0 ≤ a) (X0 : Ext Z.heap h0) (gz : Z.heap.size ≤ a) (E0 : Exa Z h0 a "java/lang/String") (o1 o2 : Value) (V0 : Fld Z h0 a "java/lang/String" "value" "[B" o1) (K0 : Fld Z h0 a "java/lang/String" "coder" "B" o2) :
    CtrW l Z (⟨"java/lang/String", "<init>", "([CIILjava/lang/Void;)V"⟩ : MethodName) jdk_42_method_149_code 6 none rmI4 #[(.ref a), (.ref b), (.int 0), (.int 0), .null] h0 n0 (fun vm => IB Z vm []) (fun v vm h => v = none ∧ Keep h0 h [a] ∧ Exa Z h a "java/lang/String") := by
  have hw := G.1
  obtain ⟨-, -, -, -, -, -, hcH, hcw⟩ := G
  have wS : ∀ a ∈ Bundle.stringAtoms, a.before a0 Z = true := fun d hd => hw d ((by decide +kernel : ∀ d ∈ Bundle.stringAtoms, d ∈ tables_1) d hd)
  refine CtrW.of (n1 := h0.size) #[.val (.ref a), .val (.ref b), .val (.int 0), .val (.int 0), .val .null, .unset] (plainFor_of_name pn1) (fun m => by rfl) ?_
  intro p e s0 vm0 m below meth c C hs0 hP0 Sw
  refine g_aloadN C d3_0 (v := (.ref a)) rfl rfl (q := 1) rfl ?_
  refine g_initO C d3_1 (wd15 hw) (wd16 hw) (wd17 hw) rfl (by decide) (W := 0) rfl (by decide) (q := 4) rfl ?_
  refine g_iloadN C d3_4 (v := 0) rfl (q := 5) rfl ?_
  refine g_if_ne C d3_5 (q' := 27) (q := 8) (by decide) (by decide) rfl (fun hy => absurd rfl hy) (fun hn => ?_)
  refine g_aloadN C d3_8 (v := (.ref a)) rfl rfl (q := 9) rfl ?_
  refine g_ldcS C Sw d3_9 (wd18 hw) wS (fun b cl hb => by rw [hs0]; exact X0.2 b cl hb) (by rw [hs0]; exact Nat.le_refl _) hP0 (by simp) hcH hcw (vs := []) (z := 0) ⟨by simp, rfl⟩ (by decide) rfl (nn := 0) (by decide) (by decide) (by decide) (by decide) (q := 11) rfl (fun ae vm1 h1 be kb Ee C1 Sw1 I1 Lt Ea Fco Fva Ar => ?_)
  refine g_getf C1 d3_11 (host := "") (Or.inl (wd24 hw)) Via.refl Fva (q := 14) rfl ?_
  refine Go.low Z0 ?_
  have E1 := E0.ext Ee
  have V1 := V0.ext Ee
  have K1 := K0.ext Ee
  refine g_putf C1 d3_14 (host := "") (Or.inl (wd24 hw)) Via.refl V1 E1 (Or.inr ⟨(wd20 hw), rfl, rfl⟩) (wd5 hw) (ty := (.array .byte)) (by decide) rfl rfl ga (q := 17) rfl (fun h2 W2 => ?_)
  have E2 := E1.wr W2
  have V2 := V1.same W2
  have K2 := K1.other W2 (Or.inr (slot_ne (Or.inr (wd21 hw)) (Or.inr (wd20 hw)) (by decide) (t := .byte) (t' := .array .byte) (by decide) (by decide)))
  refine g_aloadN C1 d3_17 (v := (.ref a)) rfl rfl (q := 18) rfl ?_
  refine g_ldcA C1 d3_18 (wd18 hw) Lt (q := 20) rfl ?_
  refine g_getf C1 d3_20 (host := "") (Or.inl (wd25 hw)) Via.refl (Fco.other W2 (Or.inr (slot_ne (Or.inr (wd21 hw)) (Or.inr (wd20 hw)) (by decide) (t := .byte) (t' := .array .byte) (by decide) (by decide)))) (q := 23) rfl ?_
  refine g_putf C1 d3_23 (host := "") (Or.inl (wd25 hw)) Via.refl K2 E2 (Or.inr ⟨(wd21 hw), rfl, rfl⟩) (wd5 hw) (ty := .byte) (by decide) rfl rfl ga (q := 26) rfl (fun h3 W3 => ?_)
  have E3 := E2.wr W3
  refine g_returnW C1 (Sw1.mono (by rw [W3.size, W2.size]; exact Nat.le_refl _)) d3_26 (Nat.le_refl _) (by decide) (by decide) (fun vm' hW => ⟨rfl, (((Ext.kp Ee [a]).wr W2 (Or.inl (by simp))).wr W3 (Or.inl (by simp))), E3⟩)
set_option maxRecDepth 65536 in
set_option maxHeartbeats 40000000 in
theorem c_init1e (l : Launch) (Z : State) (a0 : Array Value) (cz : Int32) (u t : Addr) (G : Gl Z a0 cz u t) (a b : Addr) (h0 : Heap) (n0 : Nat) (Z0 : n0 ≤ h0.size) (ga : n0 ≤ a) (X0 : Ext Z.heap h0) (gz : Z.heap.size ≤ a) (E0 : Exa Z h0 a "java/lang/String") (o1 o2 : Value) (V0 : Fld Z h0 a "java/lang/String" "value" "[B" o1) (K0 : Fld Z h0 a "java/lang/String" "coder" "B" o2) (f0 : Nat → Value) (B0 : Av Z h0 b .char 0 f0) :
    CtrW l Z (⟨"java/lang/String", "<init>", "([C)V"⟩ : MethodName) jdk_42_method_3_code 2 none rmI1 #[(.ref a), (.ref b)] h0 n0 (fun vm => IB Z vm []) (fun v vm h => v = none ∧ Keep h0 h [a] ∧ Exa Z h a "java/lang/String") := by
  have hw := G.1
  refine CtrW.of (n1 := n0) #[.val (.ref a), .val (.ref b)] (plainFor_of_name pn1) (fun m => by rfl) ?_
  intro p e s0 vm0 m below meth c C hs0 hP0 Sw
  refine g_aloadN C d2_0 (v := (.ref a)) rfl rfl (q := 1) rfl ?_
  refine g_aloadN C d2_1 (v := (.ref b)) rfl rfl (q := 2) rfl ?_
  refine g_iconst C d2_2 (z := (0 : Int32)) rfl (q := 3) rfl ?_
  refine g_aloadN C d2_3 (v := (.ref b)) rfl rfl (q := 4) rfl ?_
  refine g_alen C d2_4 B0 (z := (0 : Int32)) rfl (q := 5) rfl ?_
  refine g_aconst_null C d2_5 (q := 6) rfl ?_
  refine g_callIW C (W := 0) (argsL := [(.ref b), (.int (0 : Int32)), (.int (0 : Int32)), .null]) (rest := []) (a := a) Sw d2_6 rfl (wd11 hw) (wd12 hw) (wd6 hw) (wd14 hw) (by decide) (c_init4e l Z a0 cz u t G a b h0 n0 Z0 ga X0 gz E0 o1 o2 V0 K0) (by decide) (by decide) (by decide) (by decide) rfl (lenOf pd1 rfl) rfl rfl (q := 9) rfl (fun vm' hW' => IB.warm hP0 hW') (fun v1 vm1 h1 hQ1 C1 Sw1 hW391 => ?_)
  obtain ⟨rfl, K1, E1⟩ := hQ1
  refine ⟨[], rfl, ?_⟩
  exact g_returnW C1 Sw1 d2_9 (Nat.le_refl _) (by decide) (by decide) (fun vm' hW => ⟨rfl, K1, E1⟩)
theorem and255_chars (x : Int32) : ¬ nar .char ((x &&& (255 : Int32)).toUInt32.toUInt16.toUInt32.toInt32) < 0 ∧ ¬ (255 : Int32) < nar .char ((x &&& (255 : Int32)).toUInt32.toUInt16.toUInt32.toInt32) := by
  have t : ∀ k : Fin 256, ¬ nar .char ((Int32.ofNat k.val).toUInt32.toUInt16.toUInt32.toInt32) < 0 ∧ ¬ (255 : Int32) < nar .char ((Int32.ofNat k.val).toUInt32.toUInt16.toUInt32.toInt32) := by decide +kernel
  have h : (x &&& 255).toBitVec.toNat < 256 := by
    simp only [Int32.toBitVec_and, BitVec.toNat_and]
    exact Nat.lt_succ_of_le Nat.and_le_right
  have e : (x &&& 255) = Int32.ofNat (x &&& 255).toBitVec.toNat := by
    apply Int32.toBitVec_inj.mp
    show _ = BitVec.ofNat 32 _
    rw [BitVec.ofNat_toNat]; simp
  rw [e]
  exact t ⟨_, h⟩
/-- new String(char[]) of Latin-1 chars, as a callee that pays -/
theorem bk_str {p : Program} {l : Launch} {e : Env} {R : Room} {s : State} {m : MethodId} {args : Array Value} {below : List Frame} {meth : Method} {c : Code} {Z : State} {a0 : Array Value} {h : Heap} {own nm : String} {code : ByteArray} {ml W : Nat} {ret : Option FieldType} (C : Cx p s m meth c Z own nm code ml ret) (hw : ∀ d ∈ tables_1, d.before a0 Z = true) (wi : (Jvm.Cond.instantiable "java/lang/String" 4).before a0 Z = true)
    {x b : Addr} {f : Nat → Value} {cs : List Int32} {v0 c0 : Value} {z : Int32} {n n0 : Nat} (hx0 : n0 ≤ x) (hh0 : n0 ≤ h.size) (E : Exa Z h x "java/lang/String") (V : Fld Z h x "java/lang/String" "value" "[B" v0) (K0 : Fld Z h x "java/lang/String" "coder" "B" c0) (A : Av Z h b .char n f) (hf : ∀ j, j < n → f j = (cs.map Value.int).getD j (.int 0)) (S : Sta Z h "java/lang/String" "COMPACT_STRINGS" "Z" (.int z)) (hz : ¬ z = 0)
    (hn : cs.length = n) (l0 : 0 < n) (l2 : n ≤ 4000) (hp : ∀ c ∈ cs, ¬ c < 0 ∧ ¬ (255 : Int32) < c) (hfr : 4 ≤ R.frames) (hlo : W + 65 ≤ R.locals) :
    BK l R p e below s args (⟨"java/lang/String", "<init>", "([C)V"⟩ : MethodName) 3 W #[.ref x, .ref b] h 1 n n0 (fun v h' => v = none ∧ Keep h h' [x] ∧ Exa Z h' x "java/lang/String" ∧ Fld Z h' x "java/lang/String" "coder" "B" (.int 0) ∧ ∃ (t : Addr) (kb : ClassId), n0 ≤ t ∧ h.size ≤ t ∧ ¬ t = x ∧ Fld Z h' x "java/lang/String" "value" "[B" (.ref t) ∧ Arv Z h' t kb .byte (Int32.ofNat n) ((cs.map fun c => c.toInt8.toInt32).map Value.int) (.int 0)) := by
  have hws : ∀ d ∈ StrChars.Road.words, d.before a0 Z = true := fun d hd => hw d ((by decide +kernel : ∀ d ∈ StrChars.Road.words, d ∈ tables_1) d hd)
  obtain ⟨kA, K⟩ := A.arv hf (fun j hj => by
    have hj' : j < cs.length := by omega
    have e1 : (cs.map Value.int).getD j (.int 0) = .int cs[j] := by simp [List.getD, hj']
    rw [e1]
    have q := hp _ (List.getElem_mem hj')
    have q1 := q.1; have q2 := q.2
    rw [Int32.lt_iff_toInt_lt] at q1 q2
    have e0 : (0 : Int32).toInt = 0 := rfl
    have e2 : (255 : Int32).toInt = 255 := rfl
    have e3 : (65535 : Int32).toInt = 65535 := rfl
    show (decide (0 ≤ cs[j]) && decide (cs[j] ≤ 65535)) = true
    rw [Bool.and_eq_true, decide_eq_true_eq, decide_eq_true_eq, Int32.le_iff_toInt_le, Int32.le_iff_toInt_le]
    omega)
  refine Back.mono (StrChars.Road.backV C.2.2.2.2.1 hws (kI := 4) wi (bs := cs.map fun c => c.toInt8.toInt32) hx0 hh0 E V K0 K S hz hn rfl l0 l2 hp rfl hfr hlo) (fun _ _ q => q) (fun P a v B _ hq => ?_)
  obtain ⟨L, ⟨q1, q2, q3, q4, q5, t, kb, q6, q7, q8, q9, q10⟩, hl, hc, hs⟩ := hq
  exact ⟨L, ⟨⟨q1, q3, q4, q5, t, kb, q6, q7, q8, q9, q10⟩, q2⟩, hl, hc, hs⟩
set_option maxRecDepth 65536 in
set_option maxHeartbeats 40000000 in
theorem c_pick (l : Launch) (Z : State) (a0 : Array Value) (cz : Int32) (u t : Addr) (G : Gl Z a0 cz u t) (k x y z : Int32) (gx : ¬ nar .char x < 0 ∧ ¬ (255 : Int32) < nar .char x) (gy : ¬ nar .char y < 0 ∧ ¬ (255 : Int32) < nar .char y) (gz : ¬ nar .char z < 0 ∧ ¬ (255 : Int32) < nar .char z) (h0 : Heap) (n0 : Nat) (Z0 : n0 ≤ h0.size) (X0 : Ext Z.heap h0) :
    CtrW l Z (⟨"com/example/notice_to_drain/noticetodrain/drain/HookOutcomeUnknownPinLaw", "pick", "(ICCC)Ljava/lang/String;"⟩ : MethodName) method_3_code 4 (some (.object "java/lang/String")) rmP #[(.int k), (.int x), (.int y), (.int z)] h0 n0 (fun vm => IB Z vm []) (fun v vm h => ∃ r, v = some r ∧ Keep h0 h [] ∧ (r = .null ∨ ∃ b, r = .ref b ∧ Exa Z h b "java/lang/String")) := by
  have hw := G.1
  obtain ⟨-, S0, hcz, -⟩ := id G
  refine CtrW.of (n1 := n0) #[.val (.int k), .val (.int x), .val (.int y), .val (.int z)] (plainFor_of_name pn2) (fun m => by rfl) ?_
  intro p e s0 vm0 m below meth c C hs0 hP0 Sw
  refine g_iloadN C d1_0 (v := k) rfl (q := 1) rfl ?_
  refine g_if_ne C d1_1 (q' := 15) (q := 4) (by decide) (by decide) rfl (fun hy => ?_) (fun hn => ?_)
  ·
    refine g_iloadN C d1_15 (v := k) rfl (q := 16) rfl ?_
    refine g_iconst C d1_16 (z := (1 : Int32)) rfl (q := 17) rfl ?_
    refine g_icmp_ne C d1_17 (q' := 35) (q := 20) (by decide) (by decide) rfl (fun hy => ?_) (fun hn => ?_)
    ·
      refine g_iloadN C d1_35 (v := k) rfl (q := 36) rfl ?_
      refine g_iconst C d1_36 (z := (2 : Int32)) rfl (q := 37) rfl ?_
      refine g_icmp_ne C d1_37 (q' := 59) (q := 40) (by decide) (by decide) rfl (fun hy => ?_) (fun hn => ?_)
      ·
        refine g_iloadN C d1_59 (v := k) rfl (q := 60) rfl ?_
        refine g_iconst C d1_60 (z := (4 : Int32)) rfl (q := 61) rfl ?_
        refine g_icmp_ne C d1_61 (q' := 66) (q := 64) (by decide) (by decide) rfl (fun hy => ?_) (fun hn => ?_)
        ·
          refine g_new C d1_66 (wd4 hw) (wd5 hw) (wd6 hw) (by decide) (by decide) (q := 69) rfl (fun a1 h1 q1 E1 A1 D1 => ?_)
          refine g_dup C d1_69 rfl (q := 70) rfl ?_
          refine g_iconst C d1_70 (z := (3 : Int32)) rfl (q := 71) rfl ?_
          refine g_newarray C d1_71 (wd7 hw) (by decide) (cap := 3) (by decide) (by decide) (by decide) (by decide) (q := 73) rfl (fun a2 h2 k2 q2 E2 A2 => ?_)
          have B2 : Av Z h2 a2 .char 3 (fun _ => .int 0) := Av.new A2 (by decide)
          have X2 := Ext.tr (Ext.tr X0 E1) E2
          have ga : n0 ≤ a1 := by rw [q1]; exact Z0
          have gb : n0 ≤ a2 := by rw [q2]; exact Nat.le_trans Z0 E1.1
          have EA := A1.ext E2
          have nab : a1 ≠ a2 := by rw [q2]; exact Nat.ne_of_lt A1.lt
          have FV := (D1 (Or.inr (wd20 hw)) (ty := .array .byte) (by decide)).ext E2
          have FC := (D1 (Or.inr (wd21 hw)) (ty := .byte) (by decide)).ext E2
          have K2 := Ext.kp (Ext.tr E1 E2) []
          have gZ : Z.heap.size ≤ a2 := by rw [q2]; exact Nat.le_trans X0.1 E1.1
          have g0 : h0.size ≤ a2 := by rw [q2]; exact E1.1
          refine g_dup C d1_73 rfl (q := 74) rfl ?_
          refine g_iconst C d1_74 (z := (0 : Int32)) rfl (q := 75) rfl ?_
          refine g_iloadN C d1_75 (v := x) rfl (q := 76) rfl ?_
          refine g_castore C d1_76 (i := 0) B2 (by decide) rfl gb (q := 77) rfl (fun h3 W3 B3 => ?_)
          have EA := EA.wr W3
          have FV := FV.other W3 (Or.inl nab)
          have FC := FC.other W3 (Or.inl nab)
          have X3 := Ext.wr X2 W3 gZ
          have K3 := K2.wr W3 (Or.inr g0)
          refine g_dup C d1_77 rfl (q := 78) rfl ?_
          refine g_iconst C d1_78 (z := (1 : Int32)) rfl (q := 79) rfl ?_
          refine g_iloadN C d1_79 (v := y) rfl (q := 80) rfl ?_
          refine g_castore C d1_80 (i := 1) B3 (by decide) rfl gb (q := 81) rfl (fun h4 W4 B4 => ?_)
          have EA := EA.wr W4
          have FV := FV.other W4 (Or.inl nab)
          have FC := FC.other W4 (Or.inl nab)
          have X4 := Ext.wr X3 W4 gZ
          have K4 := K3.wr W4 (Or.inr g0)
          refine g_dup C d1_81 rfl (q := 82) rfl ?_
          refine g_iconst C d1_82 (z := (2 : Int32)) rfl (q := 83) rfl ?_
          refine g_iloadN C d1_83 (v := z) rfl (q := 84) rfl ?_
          refine g_castore C d1_84 (i := 2) B4 (by decide) rfl gb (q := 85) rfl (fun h5 W5 B5 => ?_)
          have EA := EA.wr W5
          have FV := FV.other W5 (Or.inl nab)
          have FC := FC.other W5 (Or.inl nab)
          have X5 := Ext.wr X4 W5 gZ
          have K5 := K4.wr W5 (Or.inr g0)
          have hpc : ∀ c ∈ ([nar .char x, nar .char y, nar .char z] : List Int32), ¬ c < 0 ∧ ¬ (255 : Int32) < c := by
            intro c hc
            simp only [List.mem_cons, List.not_mem_nil, or_false] at hc
            rcases hc with rfl | rfl | rfl
            · exact gx
            · exact gy
            · exact gz
          have Z9 : n0 ≤ h5.size := Nat.le_trans Z0 K5.1
          refine g_callI C (W := 1) (argsL := [(.ref a2)]) (rest := [(.ref a1)]) (a := a1) d1_85 rfl (wd8 hw) (wd9 hw) (wd10 hw) (by decide) (bk_str (cs := [nar .char x, nar .char y, nar .char z]) C hw (wd5 hw) ga Z9 EA FV FC B5 (fun j hj => by
                obtain rfl | rfl | rfl : j = 0 ∨ j = 1 ∨ j = 2 := by omega
                all_goals rfl) (S0.ext X5) hcz rfl (by decide) (by decide) hpc (by decide) (by decide)) (by decide) (by decide) rfl (lenOf pd2 rfl) rfl rfl (q := 88) rfl (fun v9 h9 hQ9 => ?_)
          obtain ⟨rfl, K9, E9, -⟩ := hQ9
          refine ⟨[(.ref a1)], rfl, ?_⟩
          exact g_areturnW C (Sw.mono (Nat.le_trans K5.1 K9.1)) d1_88 rfl rfl (Nat.le_refl _) (by decide) (by decide) (fun vm' hW => ⟨_, rfl, K5.trans K9 (fun x hx => Or.inr (by cases List.mem_singleton.mp hx; rw [q1]; exact Nat.le_refl _)), Or.inr ⟨a1, rfl, E9⟩⟩)
        ·
          refine g_aconst_null C d1_64 (q := 65) rfl ?_
          exact g_areturnW C Sw d1_65 rfl rfl (Nat.le_refl _) (by decide) (by decide) (fun vm' hW => ⟨_, rfl, Keep.refl _ _, Or.inl rfl⟩)
      ·
        refine g_new C d1_40 (wd4 hw) (wd5 hw) (wd6 hw) (by decide) (by decide) (q := 43) rfl (fun a1 h1 q1 E1 A1 D1 => ?_)
        refine g_dup C d1_43 rfl (q := 44) rfl ?_
        refine g_iconst C d1_44 (z := (2 : Int32)) rfl (q := 45) rfl ?_
        refine g_newarray C d1_45 (wd7 hw) (by decide) (cap := 2) (by decide) (by decide) (by decide) (by decide) (q := 47) rfl (fun a2 h2 k2 q2 E2 A2 => ?_)
        have B2 : Av Z h2 a2 .char 2 (fun _ => .int 0) := Av.new A2 (by decide)
        have X2 := Ext.tr (Ext.tr X0 E1) E2
        have ga : n0 ≤ a1 := by rw [q1]; exact Z0
        have gb : n0 ≤ a2 := by rw [q2]; exact Nat.le_trans Z0 E1.1
        have EA := A1.ext E2
        have nab : a1 ≠ a2 := by rw [q2]; exact Nat.ne_of_lt A1.lt
        have FV := (D1 (Or.inr (wd20 hw)) (ty := .array .byte) (by decide)).ext E2
        have FC := (D1 (Or.inr (wd21 hw)) (ty := .byte) (by decide)).ext E2
        have K2 := Ext.kp (Ext.tr E1 E2) []
        have gZ : Z.heap.size ≤ a2 := by rw [q2]; exact Nat.le_trans X0.1 E1.1
        have g0 : h0.size ≤ a2 := by rw [q2]; exact E1.1
        refine g_dup C d1_47 rfl (q := 48) rfl ?_
        refine g_iconst C d1_48 (z := (0 : Int32)) rfl (q := 49) rfl ?_
        refine g_iloadN C d1_49 (v := x) rfl (q := 50) rfl ?_
        refine g_castore C d1_50 (i := 0) B2 (by decide) rfl gb (q := 51) rfl (fun h3 W3 B3 => ?_)
        have EA := EA.wr W3
        have FV := FV.other W3 (Or.inl nab)
        have FC := FC.other W3 (Or.inl nab)
        have X3 := Ext.wr X2 W3 gZ
        have K3 := K2.wr W3 (Or.inr g0)
        refine g_dup C d1_51 rfl (q := 52) rfl ?_
        refine g_iconst C d1_52 (z := (1 : Int32)) rfl (q := 53) rfl ?_
        refine g_iloadN C d1_53 (v := y) rfl (q := 54) rfl ?_
        refine g_castore C d1_54 (i := 1) B3 (by decide) rfl gb (q := 55) rfl (fun h4 W4 B4 => ?_)
        have EA := EA.wr W4
        have FV := FV.other W4 (Or.inl nab)
        have FC := FC.other W4 (Or.inl nab)
        have X4 := Ext.wr X3 W4 gZ
        have K4 := K3.wr W4 (Or.inr g0)
        have hpc : ∀ c ∈ ([nar .char x, nar .char y] : List Int32), ¬ c < 0 ∧ ¬ (255 : Int32) < c := by
          intro c hc
          simp only [List.mem_cons, List.not_mem_nil, or_false] at hc
          rcases hc with rfl | rfl
          · exact gx
          · exact gy
        have Z9 : n0 ≤ h4.size := Nat.le_trans Z0 K4.1
        refine g_callI C (W := 1) (argsL := [(.ref a2)]) (rest := [(.ref a1)]) (a := a1) d1_55 rfl (wd8 hw) (wd9 hw) (wd10 hw) (by decide) (bk_str (cs := [nar .char x, nar .char y]) C hw (wd5 hw) ga Z9 EA FV FC B4 (fun j hj => by
              obtain rfl | rfl : j = 0 ∨ j = 1 := by omega
              all_goals rfl) (S0.ext X4) hcz rfl (by decide) (by decide) hpc (by decide) (by decide)) (by decide) (by decide) rfl (lenOf pd2 rfl) rfl rfl (q := 58) rfl (fun v9 h9 hQ9 => ?_)
        obtain ⟨rfl, K9, E9, -⟩ := hQ9
        refine ⟨[(.ref a1)], rfl, ?_⟩
        exact g_areturnW C (Sw.mono (Nat.le_trans K4.1 K9.1)) d1_58 rfl rfl (Nat.le_refl _) (by decide) (by decide) (fun vm' hW => ⟨_, rfl, K4.trans K9 (fun x hx => Or.inr (by cases List.mem_singleton.mp hx; rw [q1]; exact Nat.le_refl _)), Or.inr ⟨a1, rfl, E9⟩⟩)
    ·
      refine g_new C d1_20 (wd4 hw) (wd5 hw) (wd6 hw) (by decide) (by decide) (q := 23) rfl (fun a1 h1 q1 E1 A1 D1 => ?_)
      refine g_dup C d1_23 rfl (q := 24) rfl ?_
      refine g_iconst C d1_24 (z := (1 : Int32)) rfl (q := 25) rfl ?_
      refine g_newarray C d1_25 (wd7 hw) (by decide) (cap := 1) (by decide) (by decide) (by decide) (by decide) (q := 27) rfl (fun a2 h2 k2 q2 E2 A2 => ?_)
      have B2 : Av Z h2 a2 .char 1 (fun _ => .int 0) := Av.new A2 (by decide)
      have X2 := Ext.tr (Ext.tr X0 E1) E2
      have ga : n0 ≤ a1 := by rw [q1]; exact Z0
      have gb : n0 ≤ a2 := by rw [q2]; exact Nat.le_trans Z0 E1.1
      have EA := A1.ext E2
      have nab : a1 ≠ a2 := by rw [q2]; exact Nat.ne_of_lt A1.lt
      have FV := (D1 (Or.inr (wd20 hw)) (ty := .array .byte) (by decide)).ext E2
      have FC := (D1 (Or.inr (wd21 hw)) (ty := .byte) (by decide)).ext E2
      have K2 := Ext.kp (Ext.tr E1 E2) []
      have gZ : Z.heap.size ≤ a2 := by rw [q2]; exact Nat.le_trans X0.1 E1.1
      have g0 : h0.size ≤ a2 := by rw [q2]; exact E1.1
      refine g_dup C d1_27 rfl (q := 28) rfl ?_
      refine g_iconst C d1_28 (z := (0 : Int32)) rfl (q := 29) rfl ?_
      refine g_iloadN C d1_29 (v := x) rfl (q := 30) rfl ?_
      refine g_castore C d1_30 (i := 0) B2 (by decide) rfl gb (q := 31) rfl (fun h3 W3 B3 => ?_)
      have EA := EA.wr W3
      have FV := FV.other W3 (Or.inl nab)
      have FC := FC.other W3 (Or.inl nab)
      have X3 := Ext.wr X2 W3 gZ
      have K3 := K2.wr W3 (Or.inr g0)
      have hpc : ∀ c ∈ ([nar .char x] : List Int32), ¬ c < 0 ∧ ¬ (255 : Int32) < c := by
        intro c hc
        simp only [List.mem_cons, List.not_mem_nil, or_false] at hc
        rcases hc with rfl
        · exact gx
      have Z9 : n0 ≤ h3.size := Nat.le_trans Z0 K3.1
      refine g_callI C (W := 1) (argsL := [(.ref a2)]) (rest := [(.ref a1)]) (a := a1) d1_31 rfl (wd8 hw) (wd9 hw) (wd10 hw) (by decide) (bk_str (cs := [nar .char x]) C hw (wd5 hw) ga Z9 EA FV FC B3 (fun j hj => by
            obtain rfl : j = 0 := by omega
            all_goals rfl) (S0.ext X3) hcz rfl (by decide) (by decide) hpc (by decide) (by decide)) (by decide) (by decide) rfl (lenOf pd2 rfl) rfl rfl (q := 34) rfl (fun v9 h9 hQ9 => ?_)
      obtain ⟨rfl, K9, E9, -⟩ := hQ9
      refine ⟨[(.ref a1)], rfl, ?_⟩
      exact g_areturnW C (Sw.mono (Nat.le_trans K3.1 K9.1)) d1_34 rfl rfl (Nat.le_refl _) (by decide) (by decide) (fun vm' hW => ⟨_, rfl, K3.trans K9 (fun x hx => Or.inr (by cases List.mem_singleton.mp hx; rw [q1]; exact Nat.le_refl _)), Or.inr ⟨a1, rfl, E9⟩⟩)
  ·
    refine g_new C d1_4 (wd4 hw) (wd5 hw) (wd6 hw) (by decide) (by decide) (q := 7) rfl (fun a1 h1 q1 E1 A1 D1 => ?_)
    refine g_dup C d1_7 rfl (q := 8) rfl ?_
    refine g_iconst C d1_8 (z := (0 : Int32)) rfl (q := 9) rfl ?_
    refine g_newarray C d1_9 (wd7 hw) (by decide) (cap := 0) (by decide) (by decide) (by decide) (by decide) (q := 11) rfl (fun a2 h2 k2 q2 E2 A2 => ?_)
    have B2 := Av.new A2 (by decide)
    have X2 := Ext.tr (Ext.tr X0 E1) E2
    have ga : n0 ≤ a1 := by rw [q1]; exact Z0
    have gZ : Z.heap.size ≤ a1 := by rw [q1]; exact X0.1
    refine g_callIW C (W := 1) (argsL := [(.ref a2)]) (rest := [(.ref a1)]) (a := a1) (Sw.mono (Nat.le_trans E1.1 E2.1)) d1_11 rfl (wd8 hw) (wd9 hw) (wd6 hw) (wd10 hw) (by decide) (c_init1e l Z a0 cz u t G a1 a2 h2 n0 (Nat.le_trans Z0 (Nat.le_trans E1.1 E2.1)) ga X2 gZ (A1.ext E2) _ _ ((D1 (Or.inr (wd20 hw)) (ty := .array .byte) (by decide)).ext E2) ((D1 (Or.inr (wd21 hw)) (ty := .byte) (by decide)).ext E2) _ B2) (by decide) (by decide) (by decide) (by decide) rfl (lenOf pd2 rfl) rfl rfl (q := 14) rfl (fun vm' hW' => IB.warm hP0 hW') (fun v3 vm1 h3 hQ3 C1 Sw1 hW393 => ?_)
    obtain ⟨rfl, K3, E3⟩ := hQ3
    refine ⟨[(.ref a1)], rfl, ?_⟩
    exact g_areturnW C1 Sw1 d1_14 rfl rfl (Nat.le_refl _) (by decide) (by decide) (fun vm' hW => ⟨_, rfl, (Ext.kp (Ext.tr E1 E2) []).trans K3 (fun x hx => Or.inr (by cases List.mem_singleton.mp hx; rw [q1]; exact Nat.le_refl _)), Or.inr ⟨a1, rfl, E3⟩⟩)
set_option maxRecDepth 65536 in
set_option maxHeartbeats 40000000 in
theorem c_law (l : Launch) (Z : State) (a0 : Array Value) (cz : Int32) (u t : Addr) (G : Gl Z a0 cz u t) (p0 p1 p2 p3 : Int32) (h0 : Heap) (n0 : Nat) (Z0 : n0 ≤ h0.size) (X0 : Ext Z.heap h0) :
    CtrW l Z x code maxLocals ret room_1 #[(.int p0), (.int p1), (.int p2), (.int p3)] h0 n0 (fun vm => IB Z vm []) (fun v vm h => v = some (.int 1)) := by
  have hw := G.1
  refine CtrW.of (n1 := n0) #[.val (.int p0), .val (.int p1), .val (.int p2), .val (.int p3), .unset, .unset, .unset, .unset] (plainFor_of_name pn2) (fun m => by rfl) ?_
  intro p e s0 vm0 m below meth c C hs0 hP0 Sw
  have C : Cx p (s0.setVm vm0) m meth c Z "com/example/notice_to_drain/noticetodrain/drain/HookOutcomeUnknownPinLaw" "law" code 8 (some .boolean) := C
  refine g_iloadN C at_0 (v := p0) rfl (q := 1) rfl ?_
  refine g_bipush C at_1 (z := (7 : Int32)) rfl (q := 3) rfl ?_
  refine g_iand C at_3 (q := 4) rfl ?_
  refine g_iloadN C at_4 (v := p1) rfl (q := 5) rfl ?_
  refine g_sipush C at_5 (z := (255 : Int32)) rfl (q := 8) rfl ?_
  refine g_iand C at_8 (q := 9) rfl ?_
  refine g_i2c C at_9 (q := 10) rfl ?_
  refine g_iloadN C at_10 (v := p2) rfl (q := 11) rfl ?_
  refine g_sipush C at_11 (z := (255 : Int32)) rfl (q := 14) rfl ?_
  refine g_iand C at_14 (q := 15) rfl ?_
  refine g_i2c C at_15 (q := 16) rfl ?_
  refine g_iloadN C at_16 (v := p3) rfl (q := 17) rfl ?_
  refine g_sipush C at_17 (z := (255 : Int32)) rfl (q := 20) rfl ?_
  refine g_iand C at_20 (q := 21) rfl ?_
  refine g_i2c C at_21 (q := 22) rfl ?_
  refine g_callSW C (W := 0) (argsL := [(.int (p0 &&& (7 : Int32))), (.int ((p1 &&& (255 : Int32)).toUInt32.toUInt16.toUInt32.toInt32)), (.int ((p2 &&& (255 : Int32)).toUInt32.toUInt16.toUInt32.toInt32)), (.int ((p3 &&& (255 : Int32)).toUInt32.toUInt16.toUInt32.toInt32))]) (rest := []) Sw at_22 (wd0 hw) (wd1 hw) (wd2 hw) (wd3 hw) (by decide) (c_pick l Z a0 cz u t G _ _ _ _ (and255_chars p1) (and255_chars p2) (and255_chars p3) h0 n0 Z0 X0) (by decide) (by decide) (by decide) (by decide) rfl (lenOf pd3 rfl) rfl rfl (q := 25) rfl (fun vm' hW' => IB.warm hP0 hW') (fun v1 vm1 h1 hQ1 C1 Sw1 hW391 => ?_)
  obtain ⟨r, rfl, K1, hr⟩ := hQ1
  refine ⟨[r], rfl, ?_⟩
  have X1 := Ext.keep X0 K1 (by simp)
  have Z1 : n0 ≤ h1.size := Nat.le_trans Z0 K1.1
  have hrr : r.isRef = true := by rcases hr with rfl | ⟨b, rfl, -⟩ <;> rfl
  rcases hr with rfl | ⟨b, rfl, Eb⟩
  ·
    refine g_astore C1 at_25 rfl (L' := #[.val (.int p0), .val (.int p1), .val (.int p2), .val (.int p3), .val .null, .unset, .unset, .unset]) rfl (q := 27) rfl ?_
    refine g_aload C1 at_27 (v := .null) rfl rfl (q := 29) rfl ?_
    refine g_callS C1 (W := 0) (argsL := [.null]) (rest := []) at_29 (wd26 hw) (wd27 hw) (wd28 hw) (wd29 hw) (by decide) (Ctr.bk (c_unknown l Z a0 cz u t G .null rfl h1 n0 Z1 X1) C1 (wd29 hw) (wd28 hw) (by decide) (by decide)) (by decide) (by decide) rfl (lenOf pd4 rfl) rfl rfl (q := 32) rfl (fun v2 h2 hQ2 => ?_)
    obtain ⟨a, rfl, ga, K2, E2, I1, I2, I3⟩ := hQ2
    refine ⟨[(.ref a)], rfl, ?_⟩
    have X2 := Ext.keep X1 K2 (by simp)
    refine g_astore C1 at_32 rfl (L' := #[.val (.int p0), .val (.int p1), .val (.int p2), .val (.int p3), .val .null, .val (.ref a), .unset, .unset]) rfl (q := 34) rfl ?_
    refine g_aload C1 at_34 (v := (.ref a)) rfl rfl (q := 36) rfl ?_
    refine g_callV C1 (W := 0) (argsL := []) (rest := []) (a := a) at_36 (wd45 hw) (wd46 hw) (wd48 hw) (wd47 hw) (by decide) (nf_of C1 (wd48 hw)) E2 (Ctr.bk (c_hook l Z a0 cz u t G a .null rfl h2 n0 I1) C1 (wd49 hw) (wd28 hw) (by decide) (by decide)) (by decide) (by decide) rfl (lenOf pd5 rfl) rfl rfl (q := 39) rfl (fun v3 h3 hQ3 => ?_)
    obtain ⟨rfl, rfl⟩ := hQ3
    refine ⟨[.null], rfl, ?_⟩
    refine g_astore C1 at_39 rfl (L' := #[.val (.int p0), .val (.int p1), .val (.int p2), .val (.int p3), .val .null, .val (.ref a), .val .null, .unset]) rfl (q := 41) rfl ?_
    refine g_aload C1 at_41 (v := .null) rfl rfl (q := 43) rfl ?_
    refine g_ifnonnullN C1 (a := 0) at_43 (q := 46) rfl ?_
    refine g_aload C1 at_46 (v := .null) rfl rfl (q := 48) rfl ?_
    refine g_ifnonnullN C1 (a := 0) at_48 (q := 51) rfl ?_
    refine g_iconst C1 at_51 (z := (1 : Int32)) rfl (q := 52) rfl ?_
    refine g_goto C1 at_52 (q := 66) (by decide) (by decide) ?_
    refine g_istore C1 at_66 (L' := #[.val (.int p0), .val (.int p1), .val (.int p2), .val (.int p3), .val .null, .val (.ref a), .val .null, .val (.int (1 : Int32))]) rfl (q := 68) rfl ?_
    refine g_iload C1 at_68 (v := (1 : Int32)) rfl (q := 70) rfl ?_
    refine g_if_eq C1 at_70 (q' := 101) (q := 73) (by decide) (by decide) rfl (fun hy => absurd hy (by decide)) (fun hn => ?_)
    refine g_aload C1 at_73 (v := (.ref a)) rfl rfl (q := 75) rfl ?_
    refine g_callV C1 (W := 0) (argsL := []) (rest := []) (a := a) at_75 (wd55 hw) (wd56 hw) (wd58 hw) (wd57 hw) (by decide) (nf_of C1 (wd58 hw)) E2 (Ctr.bk (c_exitUnknown l Z a0 cz u t G a h2 n0 X2 I2) C1 (wd59 hw) (wd28 hw) (by decide) (by decide)) (by decide) (by decide) rfl (lenOf pd6 rfl) rfl rfl (q := 78) rfl (fun v5 h5 hQ5 => ?_)
    obtain ⟨rfl, rfl⟩ := hQ5
    refine ⟨[(.int 1)], rfl, ?_⟩
    refine g_if_eq C1 at_78 (q' := 101) (q := 81) (by decide) (by decide) rfl (fun hy => absurd hy (by decide)) (fun hn => ?_)
    refine g_aload C1 at_81 (v := (.ref a)) rfl rfl (q := 83) rfl ?_
    refine g_callV C1 (W := 0) (argsL := []) (rest := []) (a := a) at_83 (wd60 hw) (wd61 hw) (wd63 hw) (wd62 hw) (by decide) (nf_of C1 (wd63 hw)) E2 (Ctr.bk (c_timedOut l Z a0 cz u t G a h2 n0 X2 I2) C1 (wd64 hw) (wd28 hw) (by decide) (by decide)) (by decide) (by decide) rfl (lenOf pd6 rfl) rfl rfl (q := 86) rfl (fun v6 h6 hQ6 => ?_)
    obtain ⟨rfl, rfl⟩ := hQ6
    refine ⟨[(.int 0)], rfl, ?_⟩
    refine g_if_ne C1 at_86 (q' := 101) (q := 89) (by decide) (by decide) rfl (fun hy => absurd rfl hy) (fun hn => ?_)
    refine g_aload C1 at_89 (v := (.ref a)) rfl rfl (q := 91) rfl ?_
    refine g_callV C1 (W := 0) (argsL := []) (rest := []) (a := a) at_91 (wd67 hw) (wd68 hw) (wd70 hw) (wd69 hw) (by decide) (nf_of C1 (wd70 hw)) E2 (Ctr.bk (c_ok l Z a0 cz u t G a h2 n0 I3) C1 (wd71 hw) (wd28 hw) (by decide) (by decide)) (by decide) (by decide) rfl (lenOf pd6 rfl) rfl rfl (q := 94) rfl (fun v7 h7 hQ7 => ?_)
    obtain ⟨rfl, rfl⟩ := hQ7
    refine ⟨[(.int 0)], rfl, ?_⟩
    refine g_if_ne C1 at_94 (q' := 101) (q := 97) (by decide) (by decide) rfl (fun hy => absurd rfl hy) (fun hn => ?_)
    refine g_iconst C1 at_97 (z := (1 : Int32)) rfl (q := 98) rfl ?_
    refine g_goto C1 at_98 (q := 102) (by decide) (by decide) ?_
    exact g_nreturnW C1 (Sw1.mono K2.1) at_102 (by simp) (z := 1) rfl (Nat.le_refl _) (by decide) (by decide) (fun vm' hW => rfl)
  ·
    refine g_astore C1 at_25 rfl (L' := #[.val (.int p0), .val (.int p1), .val (.int p2), .val (.int p3), .val (.ref b), .unset, .unset, .unset]) rfl (q := 27) rfl ?_
    refine g_aload C1 at_27 (v := (.ref b)) rfl rfl (q := 29) rfl ?_
    refine g_callS C1 (W := 0) (argsL := [(.ref b)]) (rest := []) at_29 (wd26 hw) (wd27 hw) (wd28 hw) (wd29 hw) (by decide) (Ctr.bk (c_unknown l Z a0 cz u t G (.ref b) rfl h1 n0 Z1 X1) C1 (wd29 hw) (wd28 hw) (by decide) (by decide)) (by decide) (by decide) rfl (lenOf pd4 rfl) rfl rfl (q := 32) rfl (fun v2 h2 hQ2 => ?_)
    obtain ⟨a, rfl, ga, K2, E2, I1, I2, I3⟩ := hQ2
    refine ⟨[(.ref a)], rfl, ?_⟩
    have X2 := Ext.keep X1 K2 (by simp)
    refine g_astore C1 at_32 rfl (L' := #[.val (.int p0), .val (.int p1), .val (.int p2), .val (.int p3), .val (.ref b), .val (.ref a), .unset, .unset]) rfl (q := 34) rfl ?_
    refine g_aload C1 at_34 (v := (.ref a)) rfl rfl (q := 36) rfl ?_
    refine g_callV C1 (W := 0) (argsL := []) (rest := []) (a := a) at_36 (wd45 hw) (wd46 hw) (wd48 hw) (wd47 hw) (by decide) (nf_of C1 (wd48 hw)) E2 (Ctr.bk (c_hook l Z a0 cz u t G a (.ref b) rfl h2 n0 I1) C1 (wd49 hw) (wd28 hw) (by decide) (by decide)) (by decide) (by decide) rfl (lenOf pd5 rfl) rfl rfl (q := 39) rfl (fun v3 h3 hQ3 => ?_)
    obtain ⟨rfl, rfl⟩ := hQ3
    refine ⟨[(.ref b)], rfl, ?_⟩
    refine g_astore C1 at_39 rfl (L' := #[.val (.int p0), .val (.int p1), .val (.int p2), .val (.int p3), .val (.ref b), .val (.ref a), .val (.ref b), .unset]) rfl (q := 41) rfl ?_
    refine g_aload C1 at_41 (v := (.ref b)) rfl rfl (q := 43) rfl ?_
    refine g_ifnonnullY C1 at_43 (q := 59) (by decide) (by decide) ?_
    refine g_aload C1 at_59 (v := (.ref b)) rfl rfl (q := 61) rfl ?_
    refine g_aload C1 at_61 (v := (.ref b)) rfl rfl (q := 63) rfl ?_
    refine g_callV C1 (W := 0) (argsL := [(.ref b)]) (rest := []) (a := b) at_63 (wd50 hw) (wd51 hw) (wd53 hw) (wd52 hw) (by decide) (nf_of C1 (wd53 hw)) (Eb.keep K2) (Ctr.bk (c_eqself l Z a0 cz u t G b h2 n0) C1 (wd54 hw) (wd6 hw) (by decide) (by decide)) (by decide) (by decide) rfl (lenOf pd7 rfl) rfl rfl (q := 66) rfl (fun v4 h4 hQ4 => ?_)
    obtain ⟨rfl, rfl⟩ := hQ4
    refine ⟨[(.int 1)], rfl, ?_⟩
    refine g_istore C1 at_66 (L' := #[.val (.int p0), .val (.int p1), .val (.int p2), .val (.int p3), .val (.ref b), .val (.ref a), .val (.ref b), .val (.int 1)]) rfl (q := 68) rfl ?_
    refine g_iload C1 at_68 (v := 1) rfl (q := 70) rfl ?_
    refine g_if_eq C1 at_70 (q' := 101) (q := 73) (by decide) (by decide) rfl (fun hy => absurd hy (by decide)) (fun hn => ?_)
    refine g_aload C1 at_73 (v := (.ref a)) rfl rfl (q := 75) rfl ?_
    refine g_callV C1 (W := 0) (argsL := []) (rest := []) (a := a) at_75 (wd55 hw) (wd56 hw) (wd58 hw) (wd57 hw) (by decide) (nf_of C1 (wd58 hw)) E2 (Ctr.bk (c_exitUnknown l Z a0 cz u t G a h2 n0 X2 I2) C1 (wd59 hw) (wd28 hw) (by decide) (by decide)) (by decide) (by decide) rfl (lenOf pd6 rfl) rfl rfl (q := 78) rfl (fun v5 h5 hQ5 => ?_)
    obtain ⟨rfl, rfl⟩ := hQ5
    refine ⟨[(.int 1)], rfl, ?_⟩
    refine g_if_eq C1 at_78 (q' := 101) (q := 81) (by decide) (by decide) rfl (fun hy => absurd hy (by decide)) (fun hn => ?_)
    refine g_aload C1 at_81 (v := (.ref a)) rfl rfl (q := 83) rfl ?_
    refine g_callV C1 (W := 0) (argsL := []) (rest := []) (a := a) at_83 (wd60 hw) (wd61 hw) (wd63 hw) (wd62 hw) (by decide) (nf_of C1 (wd63 hw)) E2 (Ctr.bk (c_timedOut l Z a0 cz u t G a h2 n0 X2 I2) C1 (wd64 hw) (wd28 hw) (by decide) (by decide)) (by decide) (by decide) rfl (lenOf pd6 rfl) rfl rfl (q := 86) rfl (fun v6 h6 hQ6 => ?_)
    obtain ⟨rfl, rfl⟩ := hQ6
    refine ⟨[(.int 0)], rfl, ?_⟩
    refine g_if_ne C1 at_86 (q' := 101) (q := 89) (by decide) (by decide) rfl (fun hy => absurd rfl hy) (fun hn => ?_)
    refine g_aload C1 at_89 (v := (.ref a)) rfl rfl (q := 91) rfl ?_
    refine g_callV C1 (W := 0) (argsL := []) (rest := []) (a := a) at_91 (wd67 hw) (wd68 hw) (wd70 hw) (wd69 hw) (by decide) (nf_of C1 (wd70 hw)) E2 (Ctr.bk (c_ok l Z a0 cz u t G a h2 n0 I3) C1 (wd71 hw) (wd28 hw) (by decide) (by decide)) (by decide) (by decide) rfl (lenOf pd6 rfl) rfl rfl (q := 94) rfl (fun v7 h7 hQ7 => ?_)
    obtain ⟨rfl, rfl⟩ := hQ7
    refine ⟨[(.int 0)], rfl, ?_⟩
    refine g_if_ne C1 at_94 (q' := 101) (q := 97) (by decide) (by decide) rfl (fun hy => absurd rfl hy) (fun hn => ?_)
    refine g_iconst C1 at_97 (z := (1 : Int32)) rfl (q := 98) rfl ?_
    refine g_goto C1 at_98 (q := 102) (by decide) (by decide) ?_
    exact g_nreturnW C1 (Sw1.mono K2.1) at_102 (by simp) (z := 1) rfl (Nat.le_refl _) (by decide) (by decide) (fun vm' hW => rfl)
theorem eq_int' {t : Term} {n : Int32} {args : Array Value} {s : State} (h : (Cond.eq t (.int n)).before args s = true) : t.eval args s none [] s = some (.int n) := by
  have h := Cond.before_iff.mp h
  simp only [Cond.value, Term.int_eval] at h
  cases e : t.eval args s none [] s with
  | none => simp [e] at h
  | some v => cases v <;> simp [e] at h ⊢; exact h
theorem field_eval {t : Term} {C f d : String} {args : Array Value} {s : State} {a : Addr} (e : t.eval args s none [] s = some (.ref a)) : (Term.field t C f d).eval args s none [] s = s.fieldOf? a C f d := by
  simp [Term.eval, e]
set_option maxRecDepth 65536 in
set_option maxHeartbeats 40000000 in
theorem comes_1 {Post : Tables → Env → Array Value → State → Outcome → State → Prop} (hpost : ∀ tb e args s v u, (limb_1_1.after args s (.returned v) u = true ∧ limb_1_2.after args s (.returned v) u = true ∧ True) → ReturnedEndW s (.returned v) u (Jvm.fieldLocs frame_1_writes args s ++ Jvm.arrayLocs frame_1_arrays args s ++ Jvm.staticLocs frame_1_statics s) 24 1152 → Post tb e args s (.returned v) u) :
    ArmFor flags0 classFile x code maxLocals ret World_1 tables_1 room_1 Calls_1 rest_1 Pre_1 Post := by
  intro l hfl _ _ p e ha hc hk s m args below hf hA hF happ hP
  obtain ⟨hcalls, hrest, hpre⟩ := hP
  obtain ⟨-, -, -, hnamed, -, -, -, hat⟩ := (Spec.applies_iff hf).mp happ
  obtain ⟨hg, hn⟩ := and_e (Cond.before_iff.mp (show (Jvm.Cond.and given_1 narrow_1).before args s = true from hpre))
  obtain ⟨hcount, hg0⟩ := and_e hg
  obtain ⟨ha0, hg1⟩ := and_e hg0
  obtain ⟨ha1, hg2⟩ := and_e hg1
  obtain ⟨ha2, hg3⟩ := and_e hg2
  have ha3 := hg3
  obtain ⟨w0, w1, w2, w3, rfl⟩ : ∃ w0 w1 w2 w3 : Value, args = #[w0, w1, w2, w3] := by
    have hs : args.size = 4 := by simpa [Cond.value, given_1] using hcount
    obtain ⟨L⟩ := args
    match L, hs with
    | [w0, w1, w2, w3], _ => exact ⟨w0, w1, w2, w3, rfl⟩
  have hw := fun d (hd : d ∈ tables_1) => atoms_spec (ws := Jvm.Cond.code x code maxLocals ret :: tables_1) hat d (List.mem_cons_of_mem _ hd)
  obtain ⟨hsets, hown0⟩ := atoms_of _ (rest_1_c_eq ▸ (show rest_1_c.before _ s = true from hrest))
  have hfit : Fit s := fun {y c} hc i hi => by
    obtain ⟨ha, rfl⟩ := Array.getElem?_eq_some_iff.mp hc
    have q := List.all_eq_true.mp ((Array.all_eq_true_iff_forall_mem.mp hF) _ (Array.getElem_mem ha)) i (List.mem_range.mpr hi)
    simpa [Array.getElem?_eq_getElem hi] using q
  obtain ⟨x0, ea0⟩ := is_v ha0
  obtain rfl : w0 = (.int x0) := Option.some.inj ea0
  obtain ⟨x1, ea1⟩ := is_v ha1
  obtain rfl : w1 = (.int x1) := Option.some.inj ea1
  obtain ⟨x2, ea2⟩ := is_v ha2
  obtain rfl : w2 = (.int x2) := Option.some.inj ea2
  obtain ⟨x3, ea3⟩ := is_v ha3
  obtain rfl : w3 = (.int x3) := Option.some.inj ea3
  obtain ⟨g1, hn2⟩ := and_e hn
  obtain ⟨g2, hn3⟩ := and_e hn2
  obtain ⟨g3, g4⟩ := and_e hn3
  have n5 := not_v (Cond.before_iff.mp (hsets _ (List.mem_of_getElem? (i := 2) rfl)))
  obtain ⟨cz, e10⟩ := is_v (Cond.before_iff.mp (hsets _ (List.mem_of_getElem? (i := 1) rfl)))
  have S0 : Sta s s.heap "java/lang/String" "COMPACT_STRINGS" "Z" (.int cz) := Sta.start e10 (Or.inl (hsets _ (List.mem_of_getElem? (i := 0) rfl)))
  have hcz : ¬ (cz = (0 : Int32)) := gotF (Cond.eq_ints e10 (Term.int_eval (0))) n5
  obtain ⟨u, -, -, -, eu, -⟩ := Cond.exactly_spec (Cond.before_iff.mpr g1)
  obtain ⟨t, -, -, -, et, -⟩ := Cond.exactly_spec (Cond.before_iff.mpr g2)
  have S1 := Sta.start eu (Or.inr ⟨(wd33 hw), (wd34 hw)⟩)
  have S2 := Sta.start et (Or.inr ⟨(wd33 hw), (wd66 hw)⟩)
  have hut : ¬ u = t := fun q => by
    subst q
    have e3 := eq_int' (Cond.before_iff.mpr g3)
    have e4 := eq_int' (Cond.before_iff.mpr g4)
    rw [field_eval eu] at e3
    rw [field_eval et] at e4
    rw [e3] at e4
    cases e4
  obtain ⟨n, o, h1, h2, h3, _, L, rfl, ⟨rfl, N⟩, hq⟩ := c_law l s _ cz u t ⟨hw, S0, hcz, S1, S2, hut, hcalls.1 ("java/lang/String", 7) (by simp [consts_1]), hsets _ (List.mem_of_getElem? (i := 2) rfl)⟩ x0 x1 x2 x3 s.heap s.heap.size (Nat.le_refl _) (Ext.rfl' _) p e ha hc hk s m _ below hf (app_less hf ((Spec.applies_iff_loose hf).mp happ).1) ⟨rfl, State.Warmed39.refl s, rfl, IB.start⟩ trivial
  refine ⟨n, _, h1, h2, h3, hpost _ _ _ _ _ _ ⟨Cond.after_iff.mpr rfl, Cond.after_iff.mpr (eq_i res_at (Term.int_eval (1)) rfl), trivial⟩ ⟨hq.1, hq.2.1, hq.2.2.1, (hq.2.2.2.sift fun y hy => Or.inr (N y hy)).mono (by decide) (by decide)⟩⟩
theorem main_1_1 : Claimed_1_1 := comes_1 fun _ _ _ _ _ _ h hF => ⟨h.1, hF⟩
theorem main_1_2 : Claimed_1_2 := comes_1 fun _ _ _ _ _ _ h hF => ⟨h.2.1, hF⟩
end Jvm.Pilot.@@N@@
namespace Jvm.Pilot.@@N@@
open Jvm Jvm.ClassFile Sem Op Lib Jvm.Free Jvm.Stand Jvm.Pilot.@@N@@.Jvm.D
/-! MADE BY PROGRAM (witnessworld.py) out of the Statement's table words and the real class files: 22 classes; the members and pool entries that the words name. The judged class is class 1, her method 1. -/
namespace start1
open Jvm.ClassFile
def u (s : String) : CpInfo := .utf8 (stringToUtf16 s)
/-- a pool by its gaps: so many unusable entries, then the entry; so many at the end -/
def gap : Nat → List CpInfo → List CpInfo
  | 0, r => r
  | n + 1, r => .unusable :: gap n r
def poolList (es : List (Nat × CpInfo)) (last : Nat) : List CpInfo := es.foldr (fun e r => gap e.1 (e.2 :: r)) (gap last [])
def pool (es : List (Nat × CpInfo)) (last : Nat) : Array CpInfo := ⟨poolList es last⟩
def fileOf (pool : Array CpInfo) (this : Nat) (attrs : Array Attribute := #[]) (ms : Array MethodInfo := #[]) (fl : Nat := 33) (sup : Nat := 0) (ifs : Array Nat := #[]) (fds : Array FieldInfo := #[]) : ClassFile where
  minorVersion := 0
  majorVersion := 65
  constantPool := pool
  accessFlags := fl
  thisClass := this
  superClass := sup
  interfaces := ifs
  fields := fds
  methods := ms
  attributes := attrs
def plain (name : String) (sup : Option ClassId) : Class where
  name := name
  kind := .ordinary
  loader := none
  accessFlags := 33
  super := sup
  interfaces := #[]
  cf := none
  fields := #[]
  methods := #[]
  instanceTypes := #[]
  staticTypes := #[]
  resolved := #[]
  callSites := []
  init := .initialized
  statics := none
  mirror := none

def pool0 : Array CpInfo := pool [(5, u "<init>"), (0, u "()V"), (1, .class_ 10), (1, u "java/lang/Object")] 113

def k0c0 : Code := { maxStack := 0, maxLocals := 1, code := object_method_1_code, exceptionTable := #[], attributes := #[] }
def k0m0 : Method := { name := "<init>", desc := "()V", sig := { parameters := [], returnType := none }, accessFlags := 1, code := some k0c0 }
/-- java/lang/Object -/
def k0 : Class := { plain "java/lang/Object" none with
  accessFlags := 33
  interfaces := #[]
  cf := some (fileOf pool0 8 #[] #[{ accessFlags := 1, nameIndex := 5, descriptorIndex := 6, attributes := #[] }] 33 0 #[] #[])
  fields := #[]
  methods := #[k0m0]
  instanceTypes := #[]
  staticTypes := #[]
  resolved := Array.replicate 124 none
  statics := none }

def pool1 : Array CpInfo := pool [(2, .class_ 4), (1, u "java/lang/Object"), (0, u "<init>"), (0, u "()V"), (0, .methodref 8 9), (0, .class_ 10), (0, .nameAndType 11 12), (0, u "com/example/notice_to_drain/noticetodrain/drain/HookOutcomeUnknownPinLaw"), (0, u "pick"), (0, u "(ICCC)Ljava/lang/String;"), (0, .methodref 14 15), (0, .class_ 16), (0, .nameAndType 17 18), (0, u "com/example/notice_to_drain/noticetodrain/drain/HookOutcome"), (0, u "unknown"), (0, u "(Ljava/lang/String;)Lcom/example/notice_to_drain/noticetodrain/drain/HookOutcome;"), (0, .methodref 14 20), (0, .nameAndType 21 22), (0, u "hook"), (0, u "()Ljava/lang/String;"), (0, .methodref 24 25), (0, .class_ 26), (0, .nameAndType 27 28), (0, u "java/lang/String"), (0, u "equals"), (0, u "(Ljava/lang/Object;)Z"), (0, .methodref 14 30), (0, .nameAndType 31 32), (0, u "exitUnknown"), (0, u "()Z"), (0, .methodref 14 34), (0, .nameAndType 35 32), (0, u "timedOut"), (0, .methodref 14 37), (0, .nameAndType 38 32), (0, u "ok"), (0, .methodref 24 40), (0, .nameAndType 5 41), (0, u "([C)V"), (2, u "law"), (0, u "(IIII)Z")] 3

def k1m0 : Method := { name := "<init>", desc := "()V", sig := { parameters := [], returnType := none }, accessFlags := 1, code := none }
def k1c1 : Code := { maxStack := 5, maxLocals := 8, code := code, exceptionTable := #[], attributes := #[] }
def k1m1 : Method := { name := "law", desc := "(IIII)Z", sig := { parameters := [.int, .int, .int, .int], returnType := some .boolean }, accessFlags := 9, code := some k1c1 }
def k1c2 : Code := { maxStack := 6, maxLocals := 4, code := method_3_code, exceptionTable := #[], attributes := #[] }
def k1m2 : Method := { name := "pick", desc := "(ICCC)Ljava/lang/String;", sig := { parameters := [.int, .char, .char, .char], returnType := some (.object "java/lang/String") }, accessFlags := 10, code := some k1c2 }
/-- com/example/notice_to_drain/noticetodrain/drain/HookOutcomeUnknownPinLaw -/
def k1 : Class := { plain "com/example/notice_to_drain/noticetodrain/drain/HookOutcomeUnknownPinLaw" (some 0) with
  accessFlags := 49
  interfaces := #[]
  cf := some (fileOf pool1 8 #[] #[{ accessFlags := 1, nameIndex := 5, descriptorIndex := 6, attributes := #[] }, { accessFlags := 9, nameIndex := 44, descriptorIndex := 45, attributes := #[] }, { accessFlags := 10, nameIndex := 11, descriptorIndex := 12, attributes := #[] }] 49 2 #[] #[])
  fields := #[]
  methods := #[k1m0, k1m1, k1m2]
  instanceTypes := #[]
  staticTypes := #[]
  resolved := Array.replicate 49 none
  statics := none }

def pool2 : Array CpInfo := pool [(1, .class_ 2), (0, u "java/io/Serializable"), (0, .class_ 4), (0, u "java/lang/Object")] 2

/-- java/io/Serializable -/
def k2 : Class := { plain "java/io/Serializable" (some 0) with
  accessFlags := 1537
  interfaces := #[]
  cf := some (fileOf pool2 1 #[] #[] 1537 3 #[] #[])
  fields := #[]
  methods := #[]
  instanceTypes := #[]
  staticTypes := #[]
  resolved := Array.replicate 7 none
  statics := none }

def pool3 : Array CpInfo := pool [(1, .class_ 2), (0, u "java/lang/Comparable"), (0, .class_ 4), (0, u "java/lang/Object")] 7

/-- java/lang/Comparable -/
def k3 : Class := { plain "java/lang/Comparable" (some 0) with
  accessFlags := 1537
  interfaces := #[]
  cf := some (fileOf pool3 1 #[] #[] 1537 3 #[] #[])
  fields := #[]
  methods := #[]
  instanceTypes := #[]
  staticTypes := #[]
  resolved := Array.replicate 12 none
  statics := none }

def pool4 : Array CpInfo := pool [(2, .class_ 4), (1, u "java/lang/CharSequence"), (42, .class_ 48), (0, u "java/lang/CharSequence$1CodePointIterator"), (10, .class_ 60), (0, u "java/lang/CharSequence$1CharIterator"), (5, .class_ 67), (0, u "java/lang/Object")] 63

/-- java/lang/CharSequence -/
def k4 : Class := { plain "java/lang/CharSequence" (some 0) with
  accessFlags := 1537
  interfaces := #[]
  cf := some (fileOf pool4 2 #[.nestMembers #[47, 59]] #[] 1537 66 #[] #[])
  fields := #[]
  methods := #[]
  instanceTypes := #[]
  staticTypes := #[]
  resolved := Array.replicate 131 none
  statics := none }

def pool5 : Array CpInfo := pool [(1, .class_ 2), (0, u "java/lang/constant/Constable"), (0, .class_ 4), (0, u "java/lang/Object")] 6

/-- java/lang/constant/Constable -/
def k5 : Class := { plain "java/lang/constant/Constable" (some 0) with
  accessFlags := 1537
  interfaces := #[]
  cf := some (fileOf pool5 1 #[] #[] 1537 3 #[] #[])
  fields := #[]
  methods := #[]
  instanceTypes := #[]
  staticTypes := #[]
  resolved := Array.replicate 11 none
  statics := none }

def pool6 : Array CpInfo := pool [(1, .class_ 2), (0, u "java/lang/constant/ConstantDesc"), (0, .class_ 4), (0, u "java/lang/Object")] 32

/-- java/lang/constant/ConstantDesc -/
def k6 : Class := { plain "java/lang/constant/ConstantDesc" (some 0) with
  accessFlags := 1537
  interfaces := #[]
  cf := some (fileOf pool6 1 #[] #[] 1537 3 #[] #[])
  fields := #[]
  methods := #[]
  instanceTypes := #[]
  staticTypes := #[]
  resolved := Array.replicate 37 none
  statics := none }

def pool7 : Array CpInfo := pool [(1, .methodref 2 3), (0, .class_ 4), (0, .nameAndType 5 6), (0, u "java/lang/Object"), (0, u "<init>"), (0, u "()V"), (0, .string 8), (0, u ""), (0, .fieldref 10 11), (0, .class_ 12), (0, .nameAndType 13 14), (0, u "java/lang/String"), (0, u "value"), (0, u "[B"), (0, .fieldref 10 16), (0, .nameAndType 17 18), (0, u "coder"), (0, u "B"), (2, u "hash"), (0, u "I"), (2, u "hashIsZero"), (0, u "Z"), (0, .methodref 10 28), (0, .nameAndType 5 29), (0, u "([CIILjava/lang/Void;)V"), (8, .fieldref 10 39), (0, .nameAndType 40 26), (0, u "COMPACT_STRINGS"), (1, .class_ 44), (1, u "java/lang/StringUTF16"), (0, u "compress"), (1, .methodref 42 48), (0, .nameAndType 49 50), (0, u "coderFromArrayLen"), (0, u "([BI)B"), (126, .methodref 42 178), (0, .nameAndType 45 179), (0, u "([CII)[B"), (363, u "equals"), (29, u "(Ljava/lang/Object;)Z"), (1, .class_ 576), (0, u "java/lang/CharSequence"), (22, u "CASE_INSENSITIVE_ORDER"), (0, u "Ljava/util/Comparator;"), (409, u "([C)V"), (90, u "serialPersistentFields"), (0, u "[Ljava/io/ObjectStreamField;"), (0, .class_ 1104), (0, u "java/lang/String$CaseInsensitiveComparator"), (1, .class_ 1107), (0, u "java/io/Serializable"), (0, .class_ 1109), (0, u "java/lang/Comparable"), (0, .class_ 1111), (0, u "java/lang/constant/Constable"), (0, .class_ 1113), (0, u "java/lang/constant/ConstantDesc"), (2, u "serialVersionUID"), (0, u "J"), (3, u "REPL"), (0, u "C"), (2, u "LATIN1"), (1, u "UTF16")] 323

def k7m0 : Method := { name := "<init>", desc := "()V", sig := { parameters := [], returnType := none }, accessFlags := 1, code := none }
def k7c1 : Code := { maxStack := 5, maxLocals := 2, code := jdk_42_method_3_code, exceptionTable := #[], attributes := #[] }
def k7m1 : Method := { name := "<init>", desc := "([C)V", sig := { parameters := [(.array .char)], returnType := none }, accessFlags := 1, code := some k7c1 }
def k7c2 : Code := { maxStack := 2, maxLocals := 3, code := jdk_42_method_66_code, exceptionTable := #[], attributes := #[] }
def k7m2 : Method := { name := "equals", desc := "(Ljava/lang/Object;)Z", sig := { parameters := [(.object "java/lang/Object")], returnType := some .boolean }, accessFlags := 1, code := some k7c2 }
def k7c3 : Code := { maxStack := 4, maxLocals := 6, code := jdk_42_method_149_code, exceptionTable := #[], attributes := #[] }
def k7m3 : Method := { name := "<init>", desc := "([CIILjava/lang/Void;)V", sig := { parameters := [(.array .char), .int, .int, (.object "java/lang/Void")], returnType := none }, accessFlags := 2, code := some k7c3 }
/-- java/lang/String -/
def k7 : Class := { plain "java/lang/String" (some 0) with
  accessFlags := 49
  interfaces := #[2, 3, 4, 5, 6]
  cf := some (fileOf pool7 10 #[.nestMembers #[1103]] #[{ accessFlags := 1, nameIndex := 5, descriptorIndex := 6, attributes := #[] }, { accessFlags := 1, nameIndex := 5, descriptorIndex := 1010, attributes := #[] }, { accessFlags := 1, nameIndex := 543, descriptorIndex := 573, attributes := #[] }, { accessFlags := 2, nameIndex := 5, descriptorIndex := 29, attributes := #[] }] 49 2 #[1106, 1108, 575, 1110, 1112] #[{ accessFlags := 18, nameIndex := 13, descriptorIndex := 14, attributes := #[] }, { accessFlags := 18, nameIndex := 17, descriptorIndex := 18, attributes := #[] }, { accessFlags := 2, nameIndex := 21, descriptorIndex := 22, attributes := #[] }, { accessFlags := 2, nameIndex := 25, descriptorIndex := 26, attributes := #[] }, { accessFlags := 26, nameIndex := 1116, descriptorIndex := 1117, attributes := #[] }, { accessFlags := 24, nameIndex := 40, descriptorIndex := 26, attributes := #[] }, { accessFlags := 26, nameIndex := 1101, descriptorIndex := 1102, attributes := #[] }, { accessFlags := 26, nameIndex := 1121, descriptorIndex := 1122, attributes := #[] }, { accessFlags := 25, nameIndex := 599, descriptorIndex := 600, attributes := #[] }, { accessFlags := 24, nameIndex := 1125, descriptorIndex := 18, attributes := #[] }, { accessFlags := 24, nameIndex := 1127, descriptorIndex := 18, attributes := #[] }])
  fields := #[{ name := "value", type := (.array .byte), accessFlags := 18, slot := 0, constantValue := 0 }, { name := "coder", type := .byte, accessFlags := 18, slot := 1, constantValue := 0 }, { name := "hash", type := .int, accessFlags := 2, slot := 2, constantValue := 0 }, { name := "hashIsZero", type := .boolean, accessFlags := 2, slot := 3, constantValue := 0 }, { name := "serialVersionUID", type := .long, accessFlags := 26, slot := 0, constantValue := 0 }, { name := "COMPACT_STRINGS", type := .boolean, accessFlags := 24, slot := 1, constantValue := 0 }, { name := "serialPersistentFields", type := (.array (.object "java/io/ObjectStreamField")), accessFlags := 26, slot := 2, constantValue := 0 }, { name := "REPL", type := .char, accessFlags := 26, slot := 3, constantValue := 0 }, { name := "CASE_INSENSITIVE_ORDER", type := (.object "java/util/Comparator"), accessFlags := 25, slot := 4, constantValue := 0 }, { name := "LATIN1", type := .byte, accessFlags := 24, slot := 5, constantValue := 0 }, { name := "UTF16", type := .byte, accessFlags := 24, slot := 6, constantValue := 0 }]
  methods := #[k7m0, k7m1, k7m2, k7m3]
  instanceTypes := #[(.array .byte), .byte, .int, .boolean]
  staticTypes := #[.long, .boolean, (.array (.object "java/io/ObjectStreamField")), .char, (.object "java/util/Comparator"), .byte, .byte]
  resolved := Array.replicate 1451 none
  statics := some 0 }

def pool8 : Array CpInfo := pool [(1, .methodref 2 3), (0, .class_ 4), (0, .nameAndType 5 6), (0, u "java/lang/Object"), (0, u "<init>"), (0, u "()V"), (0, .fieldref 8 9), (0, .class_ 10), (0, .nameAndType 11 12), (0, u "com/example/notice_to_drain/noticetodrain/drain/HookOutcome"), (0, u "hook"), (0, u "Ljava/lang/String;"), (0, .fieldref 8 14), (0, .nameAndType 15 16), (0, u "ending"), (0, u "Lcom/example/notice_to_drain/noticetodrain/drain/HookOutcome$Ending;"), (0, .fieldref 8 18), (0, .nameAndType 19 20), (0, u "exitStatus"), (0, u "Ljava/lang/Integer;"), (1, .class_ 24), (1, u "com/example/notice_to_drain/noticetodrain/drain/HookOutcome$Ending"), (7, .methodref 8 33), (0, .nameAndType 5 34), (0, u "(Ljava/lang/String;Lcom/example/notice_to_drain/noticetodrain/drain/HookOutcome$Ending;Ljava/lang/Integer;)V"), (3, .fieldref 22 39), (0, .nameAndType 40 16), (0, u "TIMED_OUT"), (0, .fieldref 22 42), (0, .nameAndType 43 16), (0, u "UNKNOWN"), (24, u "ok"), (12, u "(Ljava/lang/String;)Lcom/example/notice_to_drain/noticetodrain/drain/HookOutcome;"), (0, u "timedOut"), (0, u "unknown"), (0, u "()Ljava/lang/String;"), (1, u "()Z"), (0, u "exitUnknown")] 24

def k8c0 : Code := { maxStack := 2, maxLocals := 4, code := prog_5_method_1_code, exceptionTable := #[], attributes := #[] }
def k8m0 : Method := { name := "<init>", desc := "(Ljava/lang/String;Lcom/example/notice_to_drain/noticetodrain/drain/HookOutcome$Ending;Ljava/lang/Integer;)V", sig := { parameters := [(.object "java/lang/String"), (.object "com/example/notice_to_drain/noticetodrain/drain/HookOutcome$Ending"), (.object "java/lang/Integer")], returnType := none }, accessFlags := 2, code := some k8c0 }
def k8c1 : Code := { maxStack := 5, maxLocals := 1, code := prog_5_method_5_code, exceptionTable := #[], attributes := #[] }
def k8m1 : Method := { name := "unknown", desc := "(Ljava/lang/String;)Lcom/example/notice_to_drain/noticetodrain/drain/HookOutcome;", sig := { parameters := [(.object "java/lang/String")], returnType := some (.object "com/example/notice_to_drain/noticetodrain/drain/HookOutcome") }, accessFlags := 9, code := some k8c1 }
def k8c2 : Code := { maxStack := 1, maxLocals := 1, code := prog_5_method_6_code, exceptionTable := #[], attributes := #[] }
def k8m2 : Method := { name := "hook", desc := "()Ljava/lang/String;", sig := { parameters := [], returnType := some (.object "java/lang/String") }, accessFlags := 1, code := some k8c2 }
def k8c3 : Code := { maxStack := 1, maxLocals := 1, code := prog_5_method_8_code, exceptionTable := #[], attributes := #[] }
def k8m3 : Method := { name := "ok", desc := "()Z", sig := { parameters := [], returnType := some .boolean }, accessFlags := 1, code := some k8c3 }
def k8c4 : Code := { maxStack := 2, maxLocals := 1, code := prog_5_method_9_code, exceptionTable := #[], attributes := #[] }
def k8m4 : Method := { name := "timedOut", desc := "()Z", sig := { parameters := [], returnType := some .boolean }, accessFlags := 1, code := some k8c4 }
def k8c5 : Code := { maxStack := 2, maxLocals := 1, code := prog_5_method_10_code, exceptionTable := #[], attributes := #[] }
def k8m5 : Method := { name := "exitUnknown", desc := "()Z", sig := { parameters := [], returnType := some .boolean }, accessFlags := 1, code := some k8c5 }
/-- com/example/notice_to_drain/noticetodrain/drain/HookOutcome -/
def k8 : Class := { plain "com/example/notice_to_drain/noticetodrain/drain/HookOutcome" (some 0) with
  accessFlags := 49
  interfaces := #[]
  cf := some (fileOf pool8 8 #[.nestMembers #[22]] #[{ accessFlags := 2, nameIndex := 5, descriptorIndex := 34, attributes := #[] }, { accessFlags := 9, nameIndex := 83, descriptorIndex := 81, attributes := #[] }, { accessFlags := 1, nameIndex := 11, descriptorIndex := 84, attributes := #[] }, { accessFlags := 1, nameIndex := 68, descriptorIndex := 86, attributes := #[] }, { accessFlags := 1, nameIndex := 82, descriptorIndex := 86, attributes := #[] }, { accessFlags := 1, nameIndex := 87, descriptorIndex := 86, attributes := #[] }] 49 2 #[] #[{ accessFlags := 18, nameIndex := 11, descriptorIndex := 12, attributes := #[] }, { accessFlags := 18, nameIndex := 15, descriptorIndex := 16, attributes := #[] }, { accessFlags := 18, nameIndex := 19, descriptorIndex := 20, attributes := #[] }])
  fields := #[{ name := "hook", type := (.object "java/lang/String"), accessFlags := 18, slot := 0, constantValue := 0 }, { name := "ending", type := (.object "com/example/notice_to_drain/noticetodrain/drain/HookOutcome$Ending"), accessFlags := 18, slot := 1, constantValue := 0 }, { name := "exitStatus", type := (.object "java/lang/Integer"), accessFlags := 18, slot := 2, constantValue := 0 }]
  methods := #[k8m0, k8m1, k8m2, k8m3, k8m4, k8m5]
  instanceTypes := #[(.object "java/lang/String"), (.object "com/example/notice_to_drain/noticetodrain/drain/HookOutcome$Ending"), (.object "java/lang/Integer")]
  staticTypes := #[]
  resolved := Array.replicate 112 none
  statics := none }

def pool9 : Array CpInfo := pool [(2, .class_ 4), (1, u "java/lang/Enum"), (0, u "name"), (0, u "Ljava/lang/String;"), (2, u "ordinal"), (0, u "I"), (1, .class_ 14), (1, u "java/lang/Object"), (4, u "hash"), (86, .class_ 108), (1, u "java/lang/Enum$EnumDesc"), (2, .class_ 112), (0, u "java/lang/constant/Constable"), (0, .class_ 114), (0, u "java/lang/Comparable"), (0, .class_ 116), (0, u "java/io/Serializable")] 87

/-- java/lang/Enum -/
def k9 : Class := { plain "java/lang/Enum" (some 0) with
  accessFlags := 1057
  interfaces := #[5, 3, 2]
  cf := some (fileOf pool9 2 #[.nestMembers #[106]] #[] 1057 12 #[111, 113, 115] #[{ accessFlags := 18, nameIndex := 5, descriptorIndex := 6, attributes := #[] }, { accessFlags := 18, nameIndex := 9, descriptorIndex := 10, attributes := #[] }, { accessFlags := 2, nameIndex := 19, descriptorIndex := 10, attributes := #[] }])
  fields := #[{ name := "name", type := (.object "java/lang/String"), accessFlags := 18, slot := 0, constantValue := 0 }, { name := "ordinal", type := .int, accessFlags := 18, slot := 1, constantValue := 0 }, { name := "hash", type := .int, accessFlags := 2, slot := 2, constantValue := 0 }]
  methods := #[]
  instanceTypes := #[(.object "java/lang/String"), .int, .int]
  staticTypes := #[]
  resolved := Array.replicate 204 none
  statics := none }

def pool10 : Array CpInfo := pool [(1, .class_ 2), (0, u "com/example/notice_to_drain/noticetodrain/drain/HookOutcome$Ending"), (2, u "EXITED"), (0, u "Lcom/example/notice_to_drain/noticetodrain/drain/HookOutcome$Ending;"), (2, u "UNSTARTED"), (2, u "TIMED_OUT"), (2, u "UNKNOWN"), (2, u "$VALUES"), (0, u "[Lcom/example/notice_to_drain/noticetodrain/drain/HookOutcome$Ending;"), (6, .class_ 28), (1, u "java/lang/Enum"), (27, .class_ 57), (0, u "com/example/notice_to_drain/noticetodrain/drain/HookOutcome")] 2

/-- com/example/notice_to_drain/noticetodrain/drain/HookOutcome$Ending -/
def k10 : Class := { plain "com/example/notice_to_drain/noticetodrain/drain/HookOutcome$Ending" (some 9) with
  accessFlags := 16432
  interfaces := #[]
  cf := some (fileOf pool10 1 #[.nestHost 56] #[] 16432 26 #[] #[{ accessFlags := 16409, nameIndex := 5, descriptorIndex := 6, attributes := #[] }, { accessFlags := 16409, nameIndex := 9, descriptorIndex := 6, attributes := #[] }, { accessFlags := 16409, nameIndex := 12, descriptorIndex := 6, attributes := #[] }, { accessFlags := 16409, nameIndex := 15, descriptorIndex := 6, attributes := #[] }, { accessFlags := 4122, nameIndex := 18, descriptorIndex := 19, attributes := #[] }])
  fields := #[{ name := "EXITED", type := (.object "com/example/notice_to_drain/noticetodrain/drain/HookOutcome$Ending"), accessFlags := 16409, slot := 0, constantValue := 0 }, { name := "UNSTARTED", type := (.object "com/example/notice_to_drain/noticetodrain/drain/HookOutcome$Ending"), accessFlags := 16409, slot := 1, constantValue := 0 }, { name := "TIMED_OUT", type := (.object "com/example/notice_to_drain/noticetodrain/drain/HookOutcome$Ending"), accessFlags := 16409, slot := 2, constantValue := 0 }, { name := "UNKNOWN", type := (.object "com/example/notice_to_drain/noticetodrain/drain/HookOutcome$Ending"), accessFlags := 16409, slot := 3, constantValue := 0 }, { name := "$VALUES", type := (.array (.object "com/example/notice_to_drain/noticetodrain/drain/HookOutcome$Ending")), accessFlags := 4122, slot := 4, constantValue := 0 }]
  methods := #[]
  instanceTypes := #[(.object "java/lang/String"), .int, .int]
  staticTypes := #[(.object "com/example/notice_to_drain/noticetodrain/drain/HookOutcome$Ending"), (.object "com/example/notice_to_drain/noticetodrain/drain/HookOutcome$Ending"), (.object "com/example/notice_to_drain/noticetodrain/drain/HookOutcome$Ending"), (.object "com/example/notice_to_drain/noticetodrain/drain/HookOutcome$Ending"), (.array (.object "com/example/notice_to_drain/noticetodrain/drain/HookOutcome$Ending"))]
  resolved := Array.replicate 60 none
  statics := some 1 }

def pool11 : Array CpInfo := pool [(6, .class_ 8), (1, u "java/lang/Object"), (0, u "<init>"), (0, u "()V"), (1, .class_ 14), (1, u "java/lang/StringUTF16"), (31, u "$assertionsDisabled"), (0, u "Z"), (13, u "HI_BYTE_SHIFT"), (0, u "I"), (2, u "LO_BYTE_SHIFT"), (49, .methodref 12 116), (0, .nameAndType 117 118), (0, u "compress"), (0, u "([CI[BII)I"), (3, u "([CII)[B"), (138, u "coderFromArrayLen"), (0, u "([BI)B"), (106, .class_ 371), (1, u "java/lang/StringUTF16$LinesSpliterator"), (58, u "MAX_LENGTH"), (196, .class_ 628), (0, u "java/lang/StringUTF16$CodePointsSpliterator"), (0, .class_ 630), (0, u "java/lang/StringUTF16$CharsSpliterator")] 4

def k11m0 : Method := { name := "<init>", desc := "()V", sig := { parameters := [], returnType := none }, accessFlags := 0, code := none }
def k11c1 : Code := { maxStack := 2, maxLocals := 2, code := jdk_52_method_15_code, exceptionTable := #[], attributes := #[] }
def k11m1 : Method := { name := "coderFromArrayLen", desc := "([BI)B", sig := { parameters := [(.array .byte), .int], returnType := some .byte }, accessFlags := 8, code := some k11c1 }
def k11c2 : Code := { maxStack := 5, maxLocals := 6, code := jdk_52_method_16_code, exceptionTable := #[], attributes := #[] }
def k11m2 : Method := { name := "compress", desc := "([CII)[B", sig := { parameters := [(.array .char), .int, .int], returnType := some (.array .byte) }, accessFlags := 9, code := some k11c2 }
def k11c3 : Code := { maxStack := 3, maxLocals := 7, code := jdk_52_method_21_code, exceptionTable := #[], attributes := #[] }
def k11m3 : Method := { name := "compress", desc := "([CI[BII)I", sig := { parameters := [(.array .char), .int, (.array .byte), .int, .int], returnType := some .int }, accessFlags := 9, code := some k11c3 }
/-- java/lang/StringUTF16 -/
def k11 : Class := { plain "java/lang/StringUTF16" (some 0) with
  accessFlags := 48
  interfaces := #[]
  cf := some (fileOf pool11 12 #[.nestMembers #[627, 629, 369]] #[{ accessFlags := 0, nameIndex := 9, descriptorIndex := 10, attributes := #[] }, { accessFlags := 8, nameIndex := 261, descriptorIndex := 262, attributes := #[] }, { accessFlags := 9, nameIndex := 117, descriptorIndex := 122, attributes := #[] }, { accessFlags := 9, nameIndex := 117, descriptorIndex := 118, attributes := #[] }] 48 6 #[] #[{ accessFlags := 26, nameIndex := 61, descriptorIndex := 62, attributes := #[] }, { accessFlags := 26, nameIndex := 65, descriptorIndex := 62, attributes := #[] }, { accessFlags := 24, nameIndex := 430, descriptorIndex := 62, attributes := #[] }, { accessFlags := 4120, nameIndex := 46, descriptorIndex := 47, attributes := #[] }])
  fields := #[{ name := "HI_BYTE_SHIFT", type := .int, accessFlags := 26, slot := 0, constantValue := 0 }, { name := "LO_BYTE_SHIFT", type := .int, accessFlags := 26, slot := 1, constantValue := 0 }, { name := "MAX_LENGTH", type := .int, accessFlags := 24, slot := 2, constantValue := 0 }, { name := "$assertionsDisabled", type := .boolean, accessFlags := 4120, slot := 3, constantValue := 0 }]
  methods := #[k11m0, k11m1, k11m2, k11m3]
  instanceTypes := #[]
  staticTypes := #[.int, .int, .int, .boolean]
  resolved := Array.replicate 635 none
  statics := none }

def pool12 : Array CpInfo := pool [(4, .class_ 6), (1, u "java/lang/Object"), (0, u "<init>"), (0, u "()V"), (5, .class_ 16), (1, u "java/lang/StringLatin1"), (104, u "$assertionsDisabled"), (0, u "Z"), (98, .class_ 223), (1, u "java/lang/StringLatin1$LinesSpliterator"), (166, .class_ 391), (0, u "java/lang/StringLatin1$CharsSpliterator")] 3

def k12m0 : Method := { name := "<init>", desc := "()V", sig := { parameters := [], returnType := none }, accessFlags := 0, code := none }
/-- java/lang/StringLatin1 -/
def k12 : Class := { plain "java/lang/StringLatin1" (some 0) with
  accessFlags := 48
  interfaces := #[]
  cf := some (fileOf pool12 14 #[.nestMembers #[390, 221]] #[{ accessFlags := 0, nameIndex := 7, descriptorIndex := 8, attributes := #[] }] 48 4 #[] #[{ accessFlags := 4120, nameIndex := 121, descriptorIndex := 122, attributes := #[] }])
  fields := #[{ name := "$assertionsDisabled", type := .boolean, accessFlags := 4120, slot := 0, constantValue := 0 }]
  methods := #[k12m0]
  instanceTypes := #[]
  staticTypes := #[.boolean]
  resolved := Array.replicate 395 none
  statics := none }

def pool13 : Array CpInfo := pool [(2, .class_ 4), (1, u "java/lang/Object"), (0, u "<init>"), (0, u "()V"), (17, .class_ 26), (1, u "jdk/internal/util/Preconditions"), (28, .class_ 56), (0, u "jdk/internal/util/Preconditions$4"), (57, .class_ 115), (0, u "jdk/internal/util/Preconditions$1"), (7, u "SIOOBE_FORMATTER"), (0, u "Ljava/util/function/BiFunction;"), (0, .class_ 126), (0, u "jdk/internal/util/Preconditions$2"), (3, u "AIOOBE_FORMATTER"), (0, .class_ 132), (0, u "jdk/internal/util/Preconditions$3"), (3, u "IOOBE_FORMATTER")] 57

def k13m0 : Method := { name := "<init>", desc := "()V", sig := { parameters := [], returnType := none }, accessFlags := 1, code := none }
/-- jdk/internal/util/Preconditions -/
def k13 : Class := { plain "jdk/internal/util/Preconditions" (some 0) with
  accessFlags := 33
  interfaces := #[]
  cf := some (fileOf pool13 24 #[.nestMembers #[55, 131, 125, 114]] #[{ accessFlags := 1, nameIndex := 5, descriptorIndex := 6, attributes := #[] }] 33 2 #[] #[{ accessFlags := 25, nameIndex := 123, descriptorIndex := 124, attributes := #[] }, { accessFlags := 25, nameIndex := 130, descriptorIndex := 124, attributes := #[] }, { accessFlags := 25, nameIndex := 136, descriptorIndex := 124, attributes := #[] }])
  fields := #[{ name := "SIOOBE_FORMATTER", type := (.object "java/util/function/BiFunction"), accessFlags := 25, slot := 0, constantValue := 0 }, { name := "AIOOBE_FORMATTER", type := (.object "java/util/function/BiFunction"), accessFlags := 25, slot := 1, constantValue := 0 }, { name := "IOOBE_FORMATTER", type := (.object "java/util/function/BiFunction"), accessFlags := 25, slot := 2, constantValue := 0 }]
  methods := #[k13m0]
  instanceTypes := #[]
  staticTypes := #[(.object "java/util/function/BiFunction"), (.object "java/util/function/BiFunction"), (.object "java/util/function/BiFunction")]
  resolved := Array.replicate 194 none
  statics := some 2 }

def pool14 : Array CpInfo := pool [(9, u "<init>"), (6, .class_ 18), (1, u "java/lang/Object"), (0, u "()V"), (1, .class_ 23), (1, u "jdk/internal/util/ArraysSupport"), (0, u "LOG2_ARRAY_LONG_INDEX_SCALE"), (0, u "I"), (2, u "U"), (0, u "Ljdk/internal/misc/Unsafe;"), (8, u "BIG_ENDIAN"), (0, u "Z"), (8, u "LOG2_BYTE_BIT_SIZE"), (4, u "LOG2_ARRAY_INT_INDEX_SCALE"), (54, u "JLA"), (0, u "Ljdk/internal/access/JavaLangAccess;"), (11, u "LOG2_ARRAY_BOOLEAN_INDEX_SCALE"), (9, u "LOG2_ARRAY_BYTE_INDEX_SCALE"), (5, u "LOG2_ARRAY_CHAR_INDEX_SCALE"), (5, u "LOG2_ARRAY_SHORT_INDEX_SCALE"), (18, u "LOG2_ARRAY_FLOAT_INDEX_SCALE"), (24, u "LOG2_ARRAY_DOUBLE_INDEX_SCALE"), (89, u "T_BOOLEAN"), (2, u "T_CHAR"), (1, u "T_FLOAT"), (1, u "T_DOUBLE"), (1, u "T_BYTE"), (1, u "T_SHORT"), (1, u "T_INT"), (1, u "T_LONG"), (1, u "SOFT_MAX_ARRAY_LENGTH")] 83

def k14m0 : Method := { name := "<init>", desc := "()V", sig := { parameters := [], returnType := none }, accessFlags := 2, code := none }
/-- jdk/internal/util/ArraysSupport -/
def k14 : Class := { plain "jdk/internal/util/ArraysSupport" (some 0) with
  accessFlags := 33
  interfaces := #[]
  cf := some (fileOf pool14 21 #[] #[{ accessFlags := 2, nameIndex := 9, descriptorIndex := 19, attributes := #[] }] 33 16 #[] #[{ accessFlags := 24, nameIndex := 28, descriptorIndex := 29, attributes := #[] }, { accessFlags := 26, nameIndex := 38, descriptorIndex := 39, attributes := #[] }, { accessFlags := 25, nameIndex := 121, descriptorIndex := 25, attributes := #[] }, { accessFlags := 25, nameIndex := 131, descriptorIndex := 25, attributes := #[] }, { accessFlags := 25, nameIndex := 137, descriptorIndex := 25, attributes := #[] }, { accessFlags := 25, nameIndex := 143, descriptorIndex := 25, attributes := #[] }, { accessFlags := 25, nameIndex := 53, descriptorIndex := 25, attributes := #[] }, { accessFlags := 25, nameIndex := 24, descriptorIndex := 25, attributes := #[] }, { accessFlags := 25, nameIndex := 162, descriptorIndex := 25, attributes := #[] }, { accessFlags := 25, nameIndex := 187, descriptorIndex := 25, attributes := #[] }, { accessFlags := 26, nameIndex := 48, descriptorIndex := 25, attributes := #[] }, { accessFlags := 25, nameIndex := 277, descriptorIndex := 25, attributes := #[] }, { accessFlags := 25, nameIndex := 280, descriptorIndex := 25, attributes := #[] }, { accessFlags := 25, nameIndex := 282, descriptorIndex := 25, attributes := #[] }, { accessFlags := 25, nameIndex := 284, descriptorIndex := 25, attributes := #[] }, { accessFlags := 25, nameIndex := 286, descriptorIndex := 25, attributes := #[] }, { accessFlags := 25, nameIndex := 288, descriptorIndex := 25, attributes := #[] }, { accessFlags := 25, nameIndex := 290, descriptorIndex := 25, attributes := #[] }, { accessFlags := 25, nameIndex := 292, descriptorIndex := 25, attributes := #[] }, { accessFlags := 26, nameIndex := 108, descriptorIndex := 109, attributes := #[] }, { accessFlags := 25, nameIndex := 294, descriptorIndex := 25, attributes := #[] }])
  fields := #[{ name := "U", type := (.object "jdk/internal/misc/Unsafe"), accessFlags := 24, slot := 0, constantValue := 0 }, { name := "BIG_ENDIAN", type := .boolean, accessFlags := 26, slot := 1, constantValue := 0 }, { name := "LOG2_ARRAY_BOOLEAN_INDEX_SCALE", type := .int, accessFlags := 25, slot := 2, constantValue := 0 }, { name := "LOG2_ARRAY_BYTE_INDEX_SCALE", type := .int, accessFlags := 25, slot := 3, constantValue := 0 }, { name := "LOG2_ARRAY_CHAR_INDEX_SCALE", type := .int, accessFlags := 25, slot := 4, constantValue := 0 }, { name := "LOG2_ARRAY_SHORT_INDEX_SCALE", type := .int, accessFlags := 25, slot := 5, constantValue := 0 }, { name := "LOG2_ARRAY_INT_INDEX_SCALE", type := .int, accessFlags := 25, slot := 6, constantValue := 0 }, { name := "LOG2_ARRAY_LONG_INDEX_SCALE", type := .int, accessFlags := 25, slot := 7, constantValue := 0 }, { name := "LOG2_ARRAY_FLOAT_INDEX_SCALE", type := .int, accessFlags := 25, slot := 8, constantValue := 0 }, { name := "LOG2_ARRAY_DOUBLE_INDEX_SCALE", type := .int, accessFlags := 25, slot := 9, constantValue := 0 }, { name := "LOG2_BYTE_BIT_SIZE", type := .int, accessFlags := 26, slot := 10, constantValue := 0 }, { name := "T_BOOLEAN", type := .int, accessFlags := 25, slot := 11, constantValue := 0 }, { name := "T_CHAR", type := .int, accessFlags := 25, slot := 12, constantValue := 0 }, { name := "T_FLOAT", type := .int, accessFlags := 25, slot := 13, constantValue := 0 }, { name := "T_DOUBLE", type := .int, accessFlags := 25, slot := 14, constantValue := 0 }, { name := "T_BYTE", type := .int, accessFlags := 25, slot := 15, constantValue := 0 }, { name := "T_SHORT", type := .int, accessFlags := 25, slot := 16, constantValue := 0 }, { name := "T_INT", type := .int, accessFlags := 25, slot := 17, constantValue := 0 }, { name := "T_LONG", type := .int, accessFlags := 25, slot := 18, constantValue := 0 }, { name := "JLA", type := (.object "jdk/internal/access/JavaLangAccess"), accessFlags := 26, slot := 19, constantValue := 0 }, { name := "SOFT_MAX_ARRAY_LENGTH", type := .int, accessFlags := 25, slot := 20, constantValue := 0 }]
  methods := #[k14m0]
  instanceTypes := #[]
  staticTypes := #[(.object "jdk/internal/misc/Unsafe"), .boolean, .int, .int, .int, .int, .int, .int, .int, .int, .int, .int, .int, .int, .int, .int, .int, .int, .int, (.object "jdk/internal/access/JavaLangAccess"), .int]
  resolved := Array.replicate 378 none
  statics := none }

def pool15 : Array CpInfo := pool [(1, u "java/lang/Cloneable"), (0, .class_ 1), (0, u "java/lang/Object"), (0, .class_ 3)] 3

/-- java/lang/Cloneable -/
def k15 : Class := { plain "java/lang/Cloneable" (some 0) with
  accessFlags := 1537
  interfaces := #[]
  cf := some (fileOf pool15 2 #[] #[] 1537 4 #[] #[])
  fields := #[]
  methods := #[]
  instanceTypes := #[]
  staticTypes := #[]
  resolved := Array.replicate 8 none
  statics := none }

/-- the primitive byte -/
def k16 : Class := { plain "byte" none with kind := .primitive 'B', accessFlags := 0x411 }
/-- [B -/
def k17 : Class := { plain "[B" (some 0) with kind := .array 16 .byte, interfaces := #[15, 2], accessFlags := 1041 }

/-- the primitive char -/
def k18 : Class := { plain "char" none with kind := .primitive 'C', accessFlags := 0x411 }
/-- [C -/
def k19 : Class := { plain "[C" (some 0) with kind := .array 18 .char, interfaces := #[15, 2], accessFlags := 1041 }

/-- the primitive int -/
def k20 : Class := { plain "int" none with kind := .primitive 'I', accessFlags := 0x411 }
/-- [I -/
def k21 : Class := { plain "[I" (some 0) with kind := .array 20 .int, interfaces := #[15, 2], accessFlags := 1041 }

def heap : Heap := #[{ cls := 7, slots := #[.long 0, .int 1, .null, .int 0, .null, .int 0, .int 0], vm := .statics 7 },
  { cls := 10, slots := #[.null, .null, .ref 4, .ref 3, .null], vm := .statics 10 },
  { cls := 13, slots := #[.null, .null, .null], vm := .statics 13 },
  { cls := 10, slots := #[.null, .int 3, .int 0], vm := .none },
  { cls := 10, slots := #[.null, .int 2, .int 0], vm := .none }]
def classes : Array Class := #[k0, k1, k2, k3, k4, k5, k6, k7, k8, k9, k10, k11, k12, k13, k14, k15, k16, k17, k18, k19, k20, k21]
def interned : List (Array UInt16 × Addr) := []
def slotsUsed : Nat := 21
def theMethod : MethodId := ⟨1, 1⟩
def args0 : Array Value := #[.int 1, .int 97, .int 98, .int 99]
def aboutOver (below : List Frame) : State where
  vm := { classes := classes, interned := interned.toArray }
  heap := heap
  slotsUsed := slotsUsed
  threads := #[{ frames := .invoking theMethod args0 :: below }]
def below0 : List Frame := [.native { method := ⟨0, 0⟩, args := #[] }]
def about1 : State := aboutOver below0
def p0 : Program := .bare "" "" ""
def e0 : Env := launch0.env 0 0 0
theorem w_frames : about1.frames = Frame.invoking theMethod args0 :: below0 := rfl
set_option maxRecDepth 65536 in
theorem w_args : argsFit about1.vm theMethod args0 = true := by decide +kernel
set_option maxRecDepth 65536 in
theorem w_heap : heapFits about1 = true := by decide +kernel
set_option maxRecDepth 65536 in
theorem w_runnable : about1.curStatus? = some .runnable := by decide +kernel
set_option maxRecDepth 65536 in
theorem w_alone : about1.alone = true := by decide +kernel
set_option maxRecDepth 65536 in
theorem w_named : about1.methodNamed? x = some theMethod := by decide +kernel
set_option maxRecDepth 65536 in
theorem w_hears : about1.hears theMethod below0 = true := by decide +kernel
set_option maxRecDepth 65536 in
theorem w_ripe : about1.ripe theMethod args0 below0 = true := by decide +kernel
theorem w_running : about1.status = .running := rfl
set_option maxRecDepth 65536 in
theorem w_room : about1.hasRoom e0.platform room_1 = true :=
  launch0.hasRoom_least _ room_1 (by decide +kernel) (by decide +kernel) (by decide +kernel) (by decide +kernel) (by decide +kernel) (by decide +kernel)
theorem allAtoms_all (ts : List Jvm.Cond) (a : Array Jvm.Value) (st : Jvm.State) : (allAtoms ts).before a st = ts.all (fun c => c.before a st) := by
  induction ts with
  | nil => rfl
  | cons c t ih =>
    show (Jvm.Cond.and c (allAtoms t)).before a st = _
    rw [Jvm.Cond.before_and, ih, List.all_cons]
def words1 : List Jvm.Cond := Jvm.Cond.code x code maxLocals ret :: tables_1
/-- a 'code' word, met by the world's own term for the bytes: nothing is compared byte by byte -/
theorem code_word {y : MethodName} {bytes : ByteArray} {mx : Nat} {rt : Option FieldType} {a : Array Value} {s : State} {m : MethodId} {meth : Method} {c : Code} (h1 : s.methodNamed? y = some m) (h2 : s.vm.method? m = some meth) (h3 : meth.code = some c) (h4 : c.code = bytes)
    (h5 : (c.maxLocals == mx && c.exceptionTable.isEmpty && decide (c.maxStack ≤ mostOperands) && decide (meth.sig.returnType = rt) && !meth.locks && decide (parseMethodDescriptor y.desc = some meth.sig)) = true) : (Jvm.Cond.code y bytes mx rt).before a s = true := by
  simp only [Bool.and_eq_true, beq_iff_eq, Bool.not_eq_true', decide_eq_true_eq] at h5
  obtain ⟨⟨⟨⟨⟨g1, g2⟩, g3⟩, g4⟩, g5⟩, g6⟩ := h5
  simp [Cond.before, Cond.holds, Cond.value, h1, h2, h3, h4, g1, g2, g3, g4, g5, g6]
def isCode : Jvm.Cond → Bool
  | .code _ _ _ _ => true
  | _ => false
theorem all_split {L : List Jvm.Cond} {P : Jvm.Cond → Bool} (h1 : L.all (fun c => isCode c || P c) = true) (h2 : ∀ c ∈ L.filter isCode, P c = true) : L.all P = true := by
  refine List.all_eq_true.mpr fun c hc => ?_
  have h := List.all_eq_true.mp h1 c hc
  rcases Bool.eq_false_or_eq_true (isCode c) with hi | hi
  · exact h2 c (List.mem_filter.mpr ⟨hc, hi⟩)
  · simpa [hi] using h
set_option maxRecDepth 65536 in
theorem w_c0 : (Jvm.Cond.code x code maxLocals ret).before args0 about1 = true := code_word (m := ⟨1, 1⟩) (meth := k1m1) (c := k1c1) (by decide +kernel) rfl rfl rfl (by decide +kernel)
set_option maxRecDepth 65536 in
theorem w_c1 : (Jvm.Cond.code ({ cls := "com/example/notice_to_drain/noticetodrain/drain/HookOutcomeUnknownPinLaw", name := "pick", desc := "(ICCC)Ljava/lang/String;" } : Jvm.MethodName) method_3_code (4 : Nat) (Option.some (Jvm.ClassFile.FieldType.object "java/lang/String"))).before args0 about1 = true := code_word (m := ⟨1, 2⟩) (meth := k1m2) (c := k1c2) (by decide +kernel) rfl rfl rfl (by decide +kernel)
set_option maxRecDepth 65536 in
theorem w_c2 : (Jvm.Cond.code ({ cls := "java/lang/String", name := "<init>", desc := "([C)V" } : Jvm.MethodName) jdk_42_method_3_code (2 : Nat) (Option.none : Option Jvm.ClassFile.FieldType)).before args0 about1 = true := code_word (m := ⟨7, 1⟩) (meth := k7m1) (c := k7c1) (by decide +kernel) rfl rfl rfl (by decide +kernel)
set_option maxRecDepth 65536 in
theorem w_c3 : (Jvm.Cond.code ({ cls := "java/lang/String", name := "<init>", desc := "([CIILjava/lang/Void;)V" } : Jvm.MethodName) jdk_42_method_149_code (6 : Nat) (Option.none : Option Jvm.ClassFile.FieldType)).before args0 about1 = true := code_word (m := ⟨7, 3⟩) (meth := k7m3) (c := k7c3) (by decide +kernel) rfl rfl rfl (by decide +kernel)
set_option maxRecDepth 65536 in
theorem w_c4 : (Jvm.Cond.code ({ cls := "java/lang/Object", name := "<init>", desc := "()V" } : Jvm.MethodName) object_method_1_code (1 : Nat) (Option.none : Option Jvm.ClassFile.FieldType)).before args0 about1 = true := code_word (m := ⟨0, 0⟩) (meth := k0m0) (c := k0c0) (by decide +kernel) rfl rfl rfl (by decide +kernel)
set_option maxRecDepth 65536 in
theorem w_c5 : (Jvm.Cond.code ({ cls := "com/example/notice_to_drain/noticetodrain/drain/HookOutcome", name := "unknown", desc := "(Ljava/lang/String;)Lcom/example/notice_to_drain/noticetodrain/drain/HookOutcome;" } : Jvm.MethodName) prog_5_method_5_code (1 : Nat) (Option.some (Jvm.ClassFile.FieldType.object "com/example/notice_to_drain/noticetodrain/drain/HookOutcome"))).before args0 about1 = true := code_word (m := ⟨8, 1⟩) (meth := k8m1) (c := k8c1) (by decide +kernel) rfl rfl rfl (by decide +kernel)
set_option maxRecDepth 65536 in
theorem w_c6 : (Jvm.Cond.code ({ cls := "com/example/notice_to_drain/noticetodrain/drain/HookOutcome", name := "<init>", desc := "(Ljava/lang/String;Lcom/example/notice_to_drain/noticetodrain/drain/HookOutcome$Ending;Ljava/lang/Integer;)V" } : Jvm.MethodName) prog_5_method_1_code (4 : Nat) (Option.none : Option Jvm.ClassFile.FieldType)).before args0 about1 = true := code_word (m := ⟨8, 0⟩) (meth := k8m0) (c := k8c0) (by decide +kernel) rfl rfl rfl (by decide +kernel)
set_option maxRecDepth 65536 in
theorem w_c7 : (Jvm.Cond.code ({ cls := "com/example/notice_to_drain/noticetodrain/drain/HookOutcome", name := "hook", desc := "()Ljava/lang/String;" } : Jvm.MethodName) prog_5_method_6_code (1 : Nat) (Option.some (Jvm.ClassFile.FieldType.object "java/lang/String"))).before args0 about1 = true := code_word (m := ⟨8, 2⟩) (meth := k8m2) (c := k8c2) (by decide +kernel) rfl rfl rfl (by decide +kernel)
set_option maxRecDepth 65536 in
theorem w_c8 : (Jvm.Cond.code ({ cls := "java/lang/String", name := "equals", desc := "(Ljava/lang/Object;)Z" } : Jvm.MethodName) jdk_42_method_66_code (3 : Nat) (Option.some Jvm.ClassFile.FieldType.boolean)).before args0 about1 = true := code_word (m := ⟨7, 2⟩) (meth := k7m2) (c := k7c2) (by decide +kernel) rfl rfl rfl (by decide +kernel)
set_option maxRecDepth 65536 in
theorem w_c9 : (Jvm.Cond.code ({ cls := "com/example/notice_to_drain/noticetodrain/drain/HookOutcome", name := "exitUnknown", desc := "()Z" } : Jvm.MethodName) prog_5_method_10_code (1 : Nat) (Option.some Jvm.ClassFile.FieldType.boolean)).before args0 about1 = true := code_word (m := ⟨8, 5⟩) (meth := k8m5) (c := k8c5) (by decide +kernel) rfl rfl rfl (by decide +kernel)
set_option maxRecDepth 65536 in
theorem w_c10 : (Jvm.Cond.code ({ cls := "com/example/notice_to_drain/noticetodrain/drain/HookOutcome", name := "timedOut", desc := "()Z" } : Jvm.MethodName) prog_5_method_9_code (1 : Nat) (Option.some Jvm.ClassFile.FieldType.boolean)).before args0 about1 = true := code_word (m := ⟨8, 4⟩) (meth := k8m4) (c := k8c4) (by decide +kernel) rfl rfl rfl (by decide +kernel)
set_option maxRecDepth 65536 in
theorem w_c11 : (Jvm.Cond.code ({ cls := "com/example/notice_to_drain/noticetodrain/drain/HookOutcome", name := "ok", desc := "()Z" } : Jvm.MethodName) prog_5_method_8_code (1 : Nat) (Option.some Jvm.ClassFile.FieldType.boolean)).before args0 about1 = true := code_word (m := ⟨8, 3⟩) (meth := k8m3) (c := k8c3) (by decide +kernel) rfl rfl rfl (by decide +kernel)
set_option maxRecDepth 65536 in
theorem w_c12 : (Jvm.Cond.code ({ cls := "java/lang/StringUTF16", name := "compress", desc := "([CII)[B" } : Jvm.MethodName) jdk_52_method_16_code (6 : Nat) (Option.some (Jvm.ClassFile.FieldType.array Jvm.ClassFile.FieldType.byte))).before args0 about1 = true := code_word (m := ⟨11, 2⟩) (meth := k11m2) (c := k11c2) (by decide +kernel) rfl rfl rfl (by decide +kernel)
set_option maxRecDepth 65536 in
theorem w_c13 : (Jvm.Cond.code ({ cls := "java/lang/StringUTF16", name := "compress", desc := "([CI[BII)I" } : Jvm.MethodName) jdk_52_method_21_code (7 : Nat) (Option.some Jvm.ClassFile.FieldType.int)).before args0 about1 = true := code_word (m := ⟨11, 3⟩) (meth := k11m3) (c := k11c3) (by decide +kernel) rfl rfl rfl (by decide +kernel)
set_option maxRecDepth 65536 in
theorem w_c14 : (Jvm.Cond.code ({ cls := "java/lang/StringUTF16", name := "coderFromArrayLen", desc := "([BI)B" } : Jvm.MethodName) jdk_52_method_15_code (2 : Nat) (Option.some Jvm.ClassFile.FieldType.byte)).before args0 about1 = true := code_word (m := ⟨11, 1⟩) (meth := k11m1) (c := k11c1) (by decide +kernel) rfl rfl rfl (by decide +kernel)
def codes1 : List Jvm.Cond := [Jvm.Cond.code x code maxLocals ret, Jvm.Cond.code ({ cls := "com/example/notice_to_drain/noticetodrain/drain/HookOutcomeUnknownPinLaw", name := "pick", desc := "(ICCC)Ljava/lang/String;" } : Jvm.MethodName) method_3_code (4 : Nat) (Option.some (Jvm.ClassFile.FieldType.object "java/lang/String")), Jvm.Cond.code ({ cls := "java/lang/String", name := "<init>", desc := "([C)V" } : Jvm.MethodName) jdk_42_method_3_code (2 : Nat) (Option.none : Option Jvm.ClassFile.FieldType), Jvm.Cond.code ({ cls := "java/lang/String", name := "<init>", desc := "([CIILjava/lang/Void;)V" } : Jvm.MethodName) jdk_42_method_149_code (6 : Nat) (Option.none : Option Jvm.ClassFile.FieldType), Jvm.Cond.code ({ cls := "java/lang/Object", name := "<init>", desc := "()V" } : Jvm.MethodName) object_method_1_code (1 : Nat) (Option.none : Option Jvm.ClassFile.FieldType), Jvm.Cond.code ({ cls := "com/example/notice_to_drain/noticetodrain/drain/HookOutcome", name := "unknown", desc := "(Ljava/lang/String;)Lcom/example/notice_to_drain/noticetodrain/drain/HookOutcome;" } : Jvm.MethodName) prog_5_method_5_code (1 : Nat) (Option.some (Jvm.ClassFile.FieldType.object "com/example/notice_to_drain/noticetodrain/drain/HookOutcome")), Jvm.Cond.code ({ cls := "com/example/notice_to_drain/noticetodrain/drain/HookOutcome", name := "<init>", desc := "(Ljava/lang/String;Lcom/example/notice_to_drain/noticetodrain/drain/HookOutcome$Ending;Ljava/lang/Integer;)V" } : Jvm.MethodName) prog_5_method_1_code (4 : Nat) (Option.none : Option Jvm.ClassFile.FieldType), Jvm.Cond.code ({ cls := "com/example/notice_to_drain/noticetodrain/drain/HookOutcome", name := "hook", desc := "()Ljava/lang/String;" } : Jvm.MethodName) prog_5_method_6_code (1 : Nat) (Option.some (Jvm.ClassFile.FieldType.object "java/lang/String")), Jvm.Cond.code ({ cls := "java/lang/String", name := "equals", desc := "(Ljava/lang/Object;)Z" } : Jvm.MethodName) jdk_42_method_66_code (3 : Nat) (Option.some Jvm.ClassFile.FieldType.boolean), Jvm.Cond.code ({ cls := "com/example/notice_to_drain/noticetodrain/drain/HookOutcome", name := "exitUnknown", desc := "()Z" } : Jvm.MethodName) prog_5_method_10_code (1 : Nat) (Option.some Jvm.ClassFile.FieldType.boolean), Jvm.Cond.code ({ cls := "com/example/notice_to_drain/noticetodrain/drain/HookOutcome", name := "timedOut", desc := "()Z" } : Jvm.MethodName) prog_5_method_9_code (1 : Nat) (Option.some Jvm.ClassFile.FieldType.boolean), Jvm.Cond.code ({ cls := "com/example/notice_to_drain/noticetodrain/drain/HookOutcome", name := "ok", desc := "()Z" } : Jvm.MethodName) prog_5_method_8_code (1 : Nat) (Option.some Jvm.ClassFile.FieldType.boolean), Jvm.Cond.code ({ cls := "java/lang/StringUTF16", name := "compress", desc := "([CII)[B" } : Jvm.MethodName) jdk_52_method_16_code (6 : Nat) (Option.some (Jvm.ClassFile.FieldType.array Jvm.ClassFile.FieldType.byte)), Jvm.Cond.code ({ cls := "java/lang/StringUTF16", name := "compress", desc := "([CI[BII)I" } : Jvm.MethodName) jdk_52_method_21_code (7 : Nat) (Option.some Jvm.ClassFile.FieldType.int), Jvm.Cond.code ({ cls := "java/lang/StringUTF16", name := "coderFromArrayLen", desc := "([BI)B" } : Jvm.MethodName) jdk_52_method_15_code (2 : Nat) (Option.some Jvm.ClassFile.FieldType.byte)]
set_option maxRecDepth 65536 in
theorem codes_eq : words1.filter isCode = codes1 := rfl
theorem w_codes : ∀ c ∈ words1.filter isCode, c.before args0 about1 = true := by
  rw [codes_eq]
  intro c hc
  simp only [codes1, List.mem_cons, List.not_mem_nil, or_false] at hc
  rcases hc with rfl | rfl | rfl | rfl | rfl | rfl | rfl | rfl | rfl | rfl | rfl | rfl | rfl | rfl | rfl
  · exact w_c0
  · exact w_c1
  · exact w_c2
  · exact w_c3
  · exact w_c4
  · exact w_c5
  · exact w_c6
  · exact w_c7
  · exact w_c8
  · exact w_c9
  · exact w_c10
  · exact w_c11
  · exact w_c12
  · exact w_c13
  · exact w_c14
set_option maxRecDepth 65536 in
theorem w_t1 : (words1.take 24).all (fun c => isCode c || c.before args0 about1) = true := by decide +kernel
set_option maxRecDepth 65536 in
theorem w_t2 : ((words1.drop 24).take 24).all (fun c => isCode c || c.before args0 about1) = true := by decide +kernel
set_option maxRecDepth 65536 in
theorem w_t3 : (((words1.drop 24).drop 24).take 24).all (fun c => isCode c || c.before args0 about1) = true := by decide +kernel
set_option maxRecDepth 65536 in
theorem w_t4 : (((words1.drop 24).drop 24).drop 24).all (fun c => isCode c || c.before args0 about1) = true := by decide +kernel
theorem w_tables : (allAtoms (Jvm.Cond.code x code maxLocals ret :: tables_1)).before args0 about1 = true := by
  rw [allAtoms_all]
  show words1.all (fun c => c.before args0 about1) = true
  refine all_split ?_ w_codes
  rw [← List.take_append_drop 24 words1, List.all_append, w_t1, ← List.take_append_drop 24 (words1.drop 24), List.all_append, w_t2, ← List.take_append_drop 24 ((words1.drop 24).drop 24), List.all_append, w_t3, w_t4]
  rfl
set_option maxRecDepth 65536 in
theorem w_rest : rest_1_c.before args0 about1 = true := by decide +kernel
set_option maxRecDepth 65536 in
theorem w_case : (Jvm.Cond.and given_1 narrow_1).before args0 about1 = true := by decide +kernel
set_option maxRecDepth 65536 in
theorem w_consts : constsHeld consts_1 about1 := Jvm.Lit.constsHeldB_iff.mp (by decide +kernel)
theorem w_applies : (headSpec (Jvm.Cond.code x code maxLocals ret :: tables_1) room_1).applies x e0.platform about1 = true :=
  (Spec.applies_iff w_frames).mpr ⟨w_running, w_runnable, w_alone, w_named, w_hears, w_ripe, w_room, w_tables⟩
theorem atStart : AtStart classFile x code maxLocals ret World_1 tables_1 room_1 Calls_1 rest_1 Pre_1 launch0 p0 e0 about1 theMethod args0 below0 :=
  ⟨lists_1, trivial, launch0.admits_env _ _ _, launch0.least_env, fairChoices_fair.cas, fairChoices_fair.clock, w_frames, w_args, w_heap, w_applies, ⟨w_consts, trivial⟩, w_rest, w_case⟩
end start1
theorem witness_1 : WitnessClaimed_1 := ⟨start1.p0, start1.e0, start1.about1, start1.theMethod, start1.args0, start1.below0, start1.atStart⟩
end Jvm.Pilot.@@N@@
